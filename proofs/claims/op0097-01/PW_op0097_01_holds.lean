import PyProof.Rows.All
import Wide.All
import OpenK.AllK
import Wide.FinOn
import PySem.Challenge.RW_op0097_01
open PySem PySem.W PyProof.Rows
set_option Elab.async false
set_option maxRecDepth 100000
set_option maxHeartbeats 0
namespace Mine
open_top hd for PySem.Challenge.rw_op0097_01
section
abbrev Led := List (Addr × Obj)

/-- a def's contract: from any frame, with ledger news fulfilling Pre, it ends in a value and a ledger -/
def Spec (w : World) (f : Addr) (d u : Nat) (args : List Value) (Pre : Led → Prop) (Post : Led → Value → Led → Prop) : Prop :=
  ∀ (p : Program) (loose : List Str) (mean : ExcName → Option Value) (mg mb : Str → Option Value) (dp un : Nat) (gd : Option (List Code)) (cn : Str) (cs : Scope) (a : Addr) (ccd : Value)
    (cl : List (Str × Addr)) (outer : List Env) (A₀ : Around) (base h₀ : Heap) (L : Addr) (m : Str → Option Value) (news : Led) (s : Shared) (Q E : Value → Shared → Prop),
    Below A₀ base outer h₀ → Fr h₀ L s.heap m → (hd.heap_39 w.params).In h₀ → News h₀ L s.heap news → Top p loose mean mg mb h₀ → cs.kind = .function → dp + d < recursionLimit → un + u < cLine → Pre news →
    (∀ r news' h' tk', Fr h₀ L h' m → News h₀ L h' news' → Post news r news' → Q r { s with heap := h', toks := tk' }) →
    wpAny (model Challenge.rw_op0097_01.row.prog w) (ktrTop dp un gd cn cs L a ccd cl outer) (call (.ref f) args) Q E s

/-- the ledger with the entry at H in front -/
theorem news_front {h₀ h : Heap} {L H : Addr} {o : Obj} {news : Led} (N : News h₀ L h news) (hm : (H, o) ∈ news) :
    ∃ rest : Led, News h₀ L h ((H, o) :: rest) ∧ (∀ p ∈ rest, p.1 ≠ H) ∧ (∀ p ∈ news, p.1 ≠ H → p ∈ rest) ∧ (∀ p ∈ rest, p ∈ news) := by
  refine ⟨news.filter (fun p => p.1 ≠ H), fun p hp => ?_, fun p hp => ?_, fun p hp hne => ?_, fun p hp => ?_⟩
  · rcases List.mem_cons.mp hp with rfl | hp
    · exact N _ hm
    · exact N p (List.mem_filter.mp hp).1
  · simpa using (List.mem_filter.mp hp).2
  · exact List.mem_filter.mpr ⟨hp, by simpa using hne⟩
  · exact (List.mem_filter.mp hp).1

theorem news_same {h₀ h : Heap} {L H : Addr} {o o' : Obj} {news : Led} (N : News h₀ L h news) (h1 : (H, o) ∈ news) (h2 : (H, o') ∈ news) : o = o' := by
  have a := (N _ h1).1
  have b := (N _ h2).1
  simp only at a b
  rw [a] at b
  exact Option.some.inj b

theorem Spec.use {w : World} {f : Addr} {d u : Nat} {args : List Value} {Pre : Led → Prop} {Post : Led → Value → Led → Prop} (S : Spec w f d u args Pre Post)
    {p : Program} {loose : List Str} {mean : ExcName → Option Value} {mg mb : Str → Option Value} {dp un : Nat} {gd : Option (List Code)} {cn : Str} {cs : Scope} {a : Addr} {ccd : Value}
    {cl : List (Str × Addr)} {outer : List Env} {A₀ : Around} {base h₀ : Heap} {L : Addr} {m : Str → Option Value} {news : Led} {s : Shared} {Q E : Value → Shared → Prop}
    (B : Below A₀ base outer h₀) (F : Fr h₀ L s.heap m) (X : (hd.heap_39 w.params).In h₀) (N : News h₀ L s.heap news) (T : Top p loose mean mg mb h₀) (hk : cs.kind = .function) (h1 : dp + d < recursionLimit) (h2 : un + u < cLine) (hp : Pre news)
    (hr : ∀ r news' h' tk', Fr h₀ L h' m → News h₀ L h' news' → Post news r news' → Q r { s with heap := h', toks := tk' }) :
    wpAny (model Challenge.rw_op0097_01.row.prog w) (ktrTop dp un gd cn cs L a ccd cl outer) (call (.ref f) args) Q E s :=
  S p loose mean mg mb dp un gd cn cs a ccd cl outer A₀ base h₀ L m news s Q E B F X N T hk h1 h2 hp hr

theorem news_sub {h₀ h : Heap} {L : Addr} {led led' : Led} (N : News h₀ L h led) (hs : ∀ p ∈ led', p ∈ led) : News h₀ L h led' := fun p hp => N p (hs p hp)

theorem news_swap {h₀ h : Heap} {L : Addr} {a b : Addr × Obj} {r : Led} (N : News h₀ L h (a :: b :: r)) : News h₀ L h (b :: a :: r) :=
  news_sub N fun p hp => by simp only [List.mem_cons] at hp ⊢; rcases hp with h | h | h <;> simp [h]
end
section

/-! small facts on numbers, each proved once: omega in a walk's full context makes large terms -/
theorem toNat_pred {n : Nat} (h : 1 ≤ n) : ((n : Int) - 1).toNat = n - 1 := by omega
theorem toNat_succ_pred (n : Nat) : (((n + 1 : Nat) : Int) - 1).toNat = n := by omega
theorem cast_succ (n : Nat) : (n : Int) + 1 = ((n + 1 : Nat) : Int) := rfl
theorem one_add_cast (n : Nat) : (1 : Int) + (n : Int) = ((n + 1 : Nat) : Int) := by omega
theorem ex_pred {a b k n : Nat} (h1 : a + k = n) (h2 : b = a) (h3 : (b : Int) < (n : Int)) : ∃ k', k = k' + 1 := by
  cases k with
  | succ k => exact ⟨k, rfl⟩
  | zero => exact absurd h3 (by rw [h2, ← h1, Nat.add_zero]; exact Int.lt_irrefl _)
theorem k_zero {a b k n : Nat} (h1 : a + k = n) (h2 : b = a) (h3 : ¬ (b : Int) < (n : Int)) : k = 0 := by omega
theorem lt_of_cnt {a b k n m : Nat} (h1 : a + k = n) (h2 : b = a) (h3 : n < m) : b < m := by
  subst h2 h1
  exact Nat.lt_of_le_of_lt (Nat.le_add_right _ _) h3
theorem ne9 {l B : Nat} (h : 1 ≤ l ∧ l ≤ B) (hB : B ≤ 8) : l ≠ 9 := Nat.ne_of_lt (Nat.lt_of_le_of_lt (Nat.le_trans h.2 hB) (by decide))
theorem le_pred {v : Int} {l : Nat} (hv : v = (l : Int) - 1) (h : 1 ≤ l) : 0 ≤ v := by omega
theorem lt_pred {v : Int} {l n : Nat} (hv : v = (l : Int) - 1) (h : 1 ≤ l) (h2 : l ≤ n) : v < (n : Int) := by omega
theorem lt1000 {n B : Nat} (h : n = B) (h8 : B ≤ 8) : n < 1000 := Nat.lt_of_le_of_lt (Nat.le_trans (Nat.le_of_eq h) h8) (by decide)
theorem abs_neg60 {x : Int} {m : Nat} (h : x.natAbs < m) : (-x).natAbs < m := by rw [Int.natAbs_neg]; exact h
theorem abs20 {x : Int} (h1 : -(2 ^ 20) < x) (h2 : x < 2 ^ 20) : x.natAbs < 2 ^ 60 := by omega
theorem abs_box {x : Int} (h : -(2 ^ 20 * 8) ≤ x ∧ x ≤ 2 ^ 20 * 8) : x.natAbs ≤ 2 ^ 20 * 8 := by omega
theorem lt60 {n : Nat} (h : n ≤ 2 ^ 20 * 8) : n < 2 ^ 60 := Nat.lt_of_le_of_lt h (by decide)
theorem box8 {x : Int} {l : Nat} (h1 : -(2 ^ 20) < x) (h2 : x < 2 ^ 20) (hl : l ≤ 8) : -(2 ^ 20 * 8) ≤ -x * (l : Int) ∧ -x * (l : Int) ≤ 2 ^ 20 * 8 := by
  have hl1 : (0 : Int) ≤ (l : Int) := Int.natCast_nonneg _
  have a1 := Int.mul_le_mul_of_nonneg_right (show -x ≤ 2 ^ 20 by omega) hl1
  have a2 := Int.mul_le_mul_of_nonneg_right (show -(2 ^ 20) ≤ -x by omega) hl1
  omega
end
section
open PySem.AutoSeq1 (wpAny_loadPart')
open PySem.MeetsSeq PySem.MeetsSeq2 PySem.MeetsSeq3 PySem.SeqAt

/-- the order of lists of ints, as Python has it -/
def ltL : List Int → List Int → Bool
  | [], [] => false
  | [], _ :: _ => true
  | _ :: _, [] => false
  | x :: xs, y :: ys => if x = y then ltL xs ys else decide (x < y)

theorem lt_loop (l b : Addr) (vs us : List Value) (n n2 : Nat) (hlen : vs.length = us.length) (k : Nat) :
    ∀ (i : Nat) (xs ys : List Int), vs.length - i = k → IntsAre (vs.drop i) xs → IntsAre (us.drop i) ys →
      Meets (Builtin.«list.__eq__.loop» ⟨[.ref l, .ref b, rawInt i, rawInt 0], []⟩)
      (fun _ R s => s.heap.get? l = some (listOf vs.toArray n) ∧ s.heap.get? b = some (listOf us.toArray n2) ∧ R (.ok (.ret (.bool (ltL xs ys)))) s) := by
  induction k with
  | zero =>
    intro i xs ys hk hx hy prog w A R s h
    obtain ⟨hp, g, d, tk, os⟩ := s; obtain ⟨hl, hb, h⟩ := h
    wp_walk using wpAny_loadPart' hl, wpAny_loadPart' hb
    have hi1 : vs.toArray[((i : Nat) : Int).toNat]? = none := by simp; omega
    have hi2 : us.toArray[((i : Nat) : Int).toNat]? = none := by simp; omega
    rw [hi1, hi2]
    have hd1 : vs.drop i = [] := List.drop_eq_nil_of_le (by omega)
    have hd2 : us.drop i = [] := List.drop_eq_nil_of_le (by omega)
    rw [hd1] at hx
    rw [hd2] at hy
    cases hx; cases hy
    wp_walk using wpAny_loadPart' hl, wpAny_loadPart' hb
    show R (.ok (.ret (.bool (decide (vs.toArray.size < us.toArray.size))))) _
    have e : decide (vs.toArray.size < us.toArray.size) = false := by simp; omega
    rw [e]
    exact h
  | succ k ih =>
    intro i xs ys hk hx hy prog w A R s h
    obtain ⟨hp, g, d, tk, os⟩ := s; obtain ⟨hl, hb, h⟩ := h
    have hlt : i < vs.length := by omega
    have hlt2 : i < us.length := by omega
    have d1 : vs.drop i = vs[i] :: vs.drop (i + 1) := List.drop_eq_getElem_cons hlt
    have d2 : us.drop i = us[i] :: us.drop (i + 1) := List.drop_eq_getElem_cons hlt2
    rw [d1] at hx
    rw [d2] at hy
    generalize hv : vs[i] = v at hx
    generalize hu : us[i] = u at hy
    cases hx with
    | cons x tx hx =>
      cases hy with
      | cons y ty hy =>
        rename_i xs ys
        wp_walk using wpAny_loadPart' hl, wpAny_loadPart' hb
        have hi1 : vs.toArray[((i : Nat) : Int).toNat]? = some (.int x tx) := by simp [hlt, hv]
        have hi2 : us.toArray[((i : Nat) : Int).toNat]? = some (.int y ty) := by simp [hlt2, hu]
        have hc : ((i : Int) + 1) = ((i + 1 : Nat) : Int) := by push_cast; rfl
        rw [hi1, hi2]
        refine wpAny_bind (EqAt.int_int x tx y ty prog w _ _ ?_)
        by_cases hxy : x = y
        · have hb' : (x == y) = true := by simp [hxy]
          rw [hb']
          wp_walk
          rw [hc]
          exact ⟨plainId_quiet plain_eq_loop _, codeAny_builtin entry_eq_loop (by
            rw [Around.under_plainId plain_eq_loop _]
            exact ih (i + 1) xs ys (by omega) hx hy prog w A R _ ⟨hl, hb, by simpa [ltL, hxy] using h⟩)⟩
        · have hb' : (x == y) = false := by simp [hxy]
          rw [hb']
          wp_walk using wpAny_loadPart' hl, wpAny_loadPart' hb
          rw [hi1, hi2]
          dsimp only
          refine wpAny_bind ?_
          show wpAny _ _ (compareOp .Lt (.int x tx) (.int y ty)) _ _ _
          refine lt_int ?_
          wp_walk
          simpa [ltL, hxy] using h


theorem lt_lists {prog : Program} {w : World} {A : Around} {E : Value → Shared → Prop} {s : Shared} {l b : Addr} {vs us : List Value} {xs ys : List Int} {n n2 : Nat} {Q : Value → Shared → Prop}
    (hl : s.heap.get? l = some (listOf vs.toArray n)) (hb : s.heap.get? b = some (listOf us.toArray n2)) (hx : IntsAre vs xs) (hy : IntsAre us ys) (hlen : vs.length = us.length) (hu : A.units < cLine)
    (h : Q (.bool (ltL xs ys)) s) : wpAny (model prog w) A (compareOp .Lt (.ref l) (.ref b)) Q E s := by
  show wpAny _ _ (richCompare .Lt (.ref l) (.ref b)) _ _ _
  refine richCompare_meets_room (op := .Lt) (S := fun _ R s => s.heap.get? l = some (listOf vs.toArray n) ∧ s.heap.get? b = some (listOf us.toArray n2) ∧ R (.ok (.ret (.bool (ltL xs ys)))) s) ⟨_, hl, rfl⟩ ⟨_, hb, rfl⟩ F.slot_list_lt F.entry_list_lt (F.args_list_lt_2 _ _) ?_
    ⟨hl, hb, show Value.bool (ltL xs ys) ≠ Value.notImplemented ∧ Q (.bool (ltL xs ys)) s from ⟨(fun x => nomatch x), h⟩⟩ hu
  intro prog w A R s h
  obtain ⟨hp, g, d, tk, os⟩ := s; obtain ⟨hl, hb, h⟩ := h
  have f3 := AutoSeq1.sub_list_list
  wp_walk using wpAny_loadPart' hl, wpAny_loadPart' hb
  exact ⟨plainId_quiet plain_eq_loop _, codeAny_builtin entry_eq_loop (by
    rw [Around.under_plainId plain_eq_loop _]
    exact lt_loop l b vs us n n2 hlen _ 0 xs ys rfl (by simpa using hx) (by simpa using hy) prog w A R _ ⟨hl, hb, h⟩)⟩
end
section
variable {α : Type}

def sdLoop (lt : α → α → Bool) (new : α) (start : Nat) : Nat → List α → Nat → List α
  | 0, xs, pos => xs.set pos new
  | f + 1, xs, pos => if start < pos then
      (match xs[(pos - 1) / 2]? with
        | some par => if lt new par then sdLoop lt new start f (xs.set pos par) ((pos - 1) / 2) else xs.set pos new
        | none => xs)
    else xs.set pos new

def siftdown (lt : α → α → Bool) (xs : List α) (start pos : Nat) : List α := match xs[pos]? with
  | some new => sdLoop lt new start pos xs pos
  | none => xs

/-- the objects at as are lists of three ints, told by key -/
def KeyIn (led : Led) (key : Addr → List Int) (as : List Addr) : Prop :=
  ∀ a ∈ as, ∃ vs n, (a, listOf (List.toArray vs) n) ∈ led ∧ IntsAre vs (key a) ∧ vs.length = 3

abbrev ltK (key : Addr → List Int) (a b : Addr) : Bool := ltL (key a) (key b)

abbrev refs (as : List Addr) (n : Nat) : Obj := listOf (as.map Value.ref).toArray n

section
variable {prog : Program} {w : World} {A : Around} {E : Value → Shared → Prop} {s : Shared} {h₀ : Heap} {L D : Addr} {m : Str → Option Value} {news rest : Led} {n : Nat} {k : Int} {t u : Tok} {as : List Addr}
theorem sub_refs {value slice : PySem.Expr} {Q : Value → Shared → Prop} (N : News h₀ L s.heap news) (hm : (D, refs as n) ∈ news) (h0 : 0 ≤ k) (h1 : k < as.length) (hz : as.length < 1000) (h : ∀ a, as[k.toNat]? = some a → Q (.ref a) s)
    (hs : subscripted slice false (.ref D) (.int k u) = operate [.ref D, .int k u] (getItem (.ref D) (.int k u)) := by with_unfolding_all rfl) (hg : ∀ r, letTemporaryGo value (.ref D) r = pure () := by intro _; with_unfolding_all rfl) :
    wpAny (model prog w) A (subscriptTail value slice (.ref D) (.int k u)) Q E s := by
  have hk : k.toNat < as.length := by omega
  refine kim_list N hm rfl rfl h0 (by omega) (x := .ref as[k.toNat]) (by simp [hk]) (h _ (by simp [hk])) hs hg
theorem set_refs {a : Addr} {Q : Unit → Shared → Prop} (F : Fr h₀ L s.heap m) (N : News h₀ L s.heap ((D, refs as n) :: rest)) (hne : ∀ p ∈ rest, p.1 ≠ D) (h0 : 0 ≤ k) (h1 : k < as.length) (hz : as.length < 1000)
    (h : ∀ h', Fr h₀ L h' m → News h₀ L h' ((D, refs (as.set k.toNat a) n) :: rest) → Q () { s with heap := h' }) :
    wpAny (model prog w) A (setItem (.ref D) (.int k t) (.ref a)) Q E s := by
  have z := N (D, refs as n) (.head _)
  have hs : (as.map Value.ref).toArray.size = as.length := by simp
  refine ki_setAt z.1 h0 (by omega) (by omega) (h _ (F.change (Heap.SameBut.update ..) z.2.1 z.2.2) (ki_turn (pre := []) _ N (fun _ h => nomatch h) hne ?_ ?_))
  · apply Array.toList_inj.mp
    simp
  · simp
end

section
variable {prog : Program} {w : World} {A : Around} {E : Value → Shared → Prop} {s : Shared} {a b : Int} {t u : Tok} {Q : Value → Shared → Prop}
theorem my_rshift1 (h : ∀ v : Int, v = a / 2 → ∀ tk, Q (.int v tk) { s with toks := s.toks + 1 }) : wpAny (model prog w) A (binaryOp .RShift (.int a t) (.int 1 u)) Q E s :=
  rshift_int (by decide) (by
    have e : a.fdiv (2 ^ Int.toNat 1) = a / 2 := by
      have : (2 : Int) ^ Int.toNat 1 = 2 := by decide
      rw [this, Int.fdiv_eq_ediv_of_nonneg _ (by decide)]
    rw [e]; exact h _ rfl _)
theorem my_add (h : ∀ v : Int, v = a + b → ∀ tk, Q (.int v tk) { s with toks := s.toks + 1 }) : wpAny (model prog w) A (binaryOp .Add (.int a t) (.int b u)) Q E s := add_int (h _ rfl _)
theorem my_sub (h : ∀ v : Int, v = a - b → ∀ tk, Q (.int v tk) { s with toks := s.toks + 1 }) : wpAny (model prog w) A (binaryOp .Sub (.int a t) (.int b u)) Q E s := PyProof.Rows.sub_int (h _ rfl _)
theorem lt_refs {h₀ : Heap} {L D : Addr} {rest : Led} {o : Obj} {key : Addr → List Int} {as : List Addr} {x y : Addr} (N : News h₀ L s.heap ((D, o) :: rest)) (hkey : KeyIn rest key as) (hx : x ∈ as) (hy : y ∈ as) (hu : A.units < cLine)
    (h : Q (.bool (ltK key x y)) s) : wpAny (model prog w) A (compareOp .Lt (.ref x) (.ref y)) Q E s := by
  obtain ⟨vs, n, h1, h2, h3⟩ := hkey x hx
  obtain ⟨us, n', h1', h2', h3'⟩ := hkey y hy
  exact lt_lists (N _ (.tail _ h1)).1 (N _ (.tail _ h1')).1 h2 h2' (by omega) hu h
theorem getD_of {xs : List Addr} {k : Nat} {a : Addr} (h : xs[k]? = some a) : a = xs.getD k 0 := by rw [List.getD_eq_getElem?_getD, h]; rfl
theorem mem_of_get {as : List Addr} {k : Nat} {x : Addr} (h : as[k]? = some x) : x ∈ as := List.mem_of_getElem? h
theorem mem_of_get' {as xs : List Addr} {k : Nat} {x : Addr} (h : xs[k]? = some x) (hs : ∀ y ∈ xs, y ∈ as) : x ∈ as := hs _ (List.mem_of_getElem? h)
end

theorem len_refs {prog : Program} {w : World} {A : Around} {E : Value → Shared → Prop} {s : Shared} {h₀ : Heap} {L D : Addr} {news : Led} {n : Nat} {as : List Addr} {Q : Value → Shared → Prop}
    (N : News h₀ L s.heap news) (hm : (D, refs as n) ∈ news) (hz : as.length < 1000) (h : ∀ t tk, Q (.int as.length t) { s with toks := tk }) : wpAny (model prog w) A (call (.builtin "len") [.ref D]) Q E s := by
  have hl : s.heap.IsList D (as.map Value.ref).toArray := ⟨_, (N _ hm).1, rfl, n, rfl⟩
  have hs : (as.map Value.ref).toArray.size = as.length := by simp
  exact len_list hl (by rw [hs]; omega) (by rw [hs]; exact h _ _)
theorem my_mul {prog : Program} {w : World} {A : Around} {E : Value → Shared → Prop} {s : Shared} {a b : Int} {t u : Tok} {Q : Value → Shared → Prop} (ha : a.natAbs < 2 ^ 60 ∨ b.natAbs < 2 ^ 60)
    (h : ∀ v : Int, v = a * b → ∀ tk, Q (.int v tk) { s with toks := s.toks + 1 }) : wpAny (model prog w) A (binaryOp .Mult (.int a t) (.int b u)) Q E s := by
  refine PyProof.Rows.mul_int (h _ rfl _) ?_
  have bits : ∀ x : Int, x.natAbs < 2 ^ 60 → Builtin.Int.intBits x ≤ 64 := by
    intro x hx
    unfold Builtin.Int.intBits
    split
    · omega
    · rename_i h0
      have h1 : x.natAbs ≠ 0 := by simpa using h0
      have := (Nat.log2_lt h1).mpr hx
      omega
  rcases ha with ha | ha
  · exact IntMulOk.of_left (bits _ ha)
  · exact IntMulOk.of_right (bits _ ha)

theorem my_len_ints {prog : Program} {w : World} {A : Around} {E : Value → Shared → Prop} {s : Shared} {h₀ : Heap} {L D : Addr} {news : Led} {n : Nat} {vs : List Value} {xs : List Int} {Q : Value → Shared → Prop}
    (N : News h₀ L s.heap news) (hm : (D, listOf vs.toArray n) ∈ news) (hi : IntsAre vs xs) (hz : xs.length < 1000) (h : ∀ t tk, Q (.int xs.length t) { s with toks := tk }) : wpAny (model prog w) A (call (.builtin "len") [.ref D]) Q E s := by
  have hl : s.heap.IsList D vs.toArray := ⟨_, (N _ hm).1, rfl, n, rfl⟩
  have hs : vs.toArray.size = xs.length := by rw [List.size_toArray]; exact hi.length
  exact len_list hl (by rw [hs]; omega) (by rw [hs]; exact h _ _)
end
section
theorem siftdown_spec (w : World) (H : Addr) (as : List Addr) (n : Nat) (sp pos : Nat) (t1 t2 : Tok) (rest : Led) (key : Addr → List Int) (hz : as.length < 1000) (hpos : pos < as.length) :
    Spec w 35 2 10 [.ref H, .int sp t1, .int pos t2] (fun news => news = (H, refs as n) :: rest ∧ (∀ p ∈ rest, p.1 ≠ H) ∧ KeyIn rest key as) (fun _ r news' => r = .none ∧ news' = (H, refs (siftdown (ltK key) as sp pos) n) :: rest) := by
  unfold Spec
  k_fill
  intro p loose mean mg mb dp un gd cn cs a ccd cl outer A₀ base h₀ L m news s Q E B F X N T hk hd hu hpre hret
  obtain ⟨rfl, hne, hkey⟩ := hpre
  refine wpAny_call ?_
  k_dflt ktr_enter
  repeat' ((fail_if_success (with_reducible show wpAny _ _ (exec (Stmt.While _ _ _ _) _) _ _ _)); (fail_if_success (with_reducible show wpAny _ _ (exec (Stmt.For _ _ _ _ _) _) _ _ _)); first | (k_unfold; (try dsimp only)) | (with_reducible (show wpAny _ _ (binaryOp Operator.RShift (Value.int _ _) (Value.int _ _)) _ _ _; k_here; (refine my_rshift1 ?_); intro _ _ _)) | (with_reducible (show wpAny _ _ (binaryOp Operator.Sub (Value.int _ _) (Value.int _ _)) _ _ _; k_here; (refine my_sub ?_); intro _ _ _)) | (with_reducible (show wpAny _ _ (compareOp CmpOp.Lt (Value.ref _) (Value.ref _)) _ _ _; k_here; k_dflt (refine' lt_refs ?ok1 ?ok2 ?ok3 ?ok4 ?ok5 ?_; (case ok1 => k_asm); (case ok2 => assumption); (case ok3 => first | assumption | exact mem_of_get (by assumption) | exact mem_of_get' (by assumption) (by assumption)); (case ok4 => first | assumption | exact mem_of_get (by assumption) | exact mem_of_get' (by assumption) (by assumption)); (case ok5 => ktr_units); k_whole))) | (with_reducible (show wpAny _ _ (setItem (Value.ref _) (Value.int _ _) _) _ _ _; k_here; k_dflt (refine' set_refs ?ok1 ?ok2 ?ok3 ?ok4 ?ok5 ?ok6 ?_; (case ok1 => k_asm); (case ok2 => k_asm); (case ok3 => assumption); (case ok4 => omega); (case ok5 => omega); (case ok6 => omega); k_whole); intro _ _ Nz; (try simp only [Int.toNat_natCast] at Nz); revert Nz; intro _; (try k_sweep))) | (with_reducible (show wpAny _ _ (subscriptTail _ _ (Value.ref _) (Value.int _ _)) _ _ _; k_here; k_dflt (refine' sub_refs ?ok1 ?ok2 ?ok3 ?ok4 ?ok5 ?_ ?ok6 ?ok7; (case ok1 => k_asm); (case ok2 => k_mem); (case ok3 => first | assumption | exact le_pred (by assumption) (by assumption) | omega); (case ok4 => first | assumption | exact lt_pred (by assumption) (by assumption) (by assumption) | omega); (case ok5 => first | assumption | omega); (case ok6 => with_unfolding_all rfl); (case ok7 => (intro _; with_unfolding_all rfl)); k_whole); intro _ ha'; (try simp only [Int.toNat_natCast] at ha'); revert ha'; intro _)) | walk1 | (dsimp only; walk1))
  rename_i new hnew _ _ _
  rename Fr _ _ _ _ => lF'
  rename News _ _ _ _ => lN'
  refine ksw_while (σ := List Addr × Nat × Tok) (fun c => (H, refs c.1 n) :: rest) (fun c => [(Str.ofString "pos", .int c.2.1 c.2.2)]) (fun _ => True) [Str.ofString "parentpos", Str.ofString "parent"]
    (fun c => c.1.length = as.length ∧ c.2.1 < as.length ∧ (∀ x ∈ c.1, x ∈ as) ∧ ∃ f, c.2.1 ≤ f ∧ sdLoop (ltK key) new sp f c.1 c.2.1 = siftdown (ltK key) as sp pos) (fun c => c.2.1) (as, pos, t2) lF' lN' trivial ?kk ?kp ?turn
  case kk => kst_all
  case kp =>
    have hn : as[pos]? = some new := by simpa using hnew
    exact ⟨rfl, hpos, fun _ h => h, pos, Nat.le_refl _, by unfold siftdown; rw [hn]⟩
  case turn =>
    rintro ⟨xs, j, tj⟩ u h tk - ⟨hl, hj, hx, f, hf, hs⟩ F1 N1
    dsimp only at hl hj hf hs N1 hx
    dsimp only [kstB] at F1
    (try k_fold)
    repeat' ((fail_if_success (with_reducible show wpAny _ _ (exec (Stmt.While _ _ _ _) _) _ _ _)); (fail_if_success (with_reducible show wpAny _ _ (exec (Stmt.For _ _ _ _ _) _) _ _ _)); first | (k_unfold; (try dsimp only)) | (with_reducible (show wpAny _ _ (binaryOp Operator.RShift (Value.int _ _) (Value.int _ _)) _ _ _; k_here; (refine my_rshift1 ?_); intro _ _ _)) | (with_reducible (show wpAny _ _ (binaryOp Operator.Sub (Value.int _ _) (Value.int _ _)) _ _ _; k_here; (refine my_sub ?_); intro _ _ _)) | (with_reducible (show wpAny _ _ (compareOp CmpOp.Lt (Value.ref _) (Value.ref _)) _ _ _; k_here; k_dflt (refine' lt_refs ?ok1 ?ok2 ?ok3 ?ok4 ?ok5 ?_; (case ok1 => k_asm); (case ok2 => assumption); (case ok3 => first | assumption | exact mem_of_get (by assumption) | exact mem_of_get' (by assumption) (by assumption)); (case ok4 => first | assumption | exact mem_of_get (by assumption) | exact mem_of_get' (by assumption) (by assumption)); (case ok5 => ktr_units); k_whole))) | (with_reducible (show wpAny _ _ (setItem (Value.ref _) (Value.int _ _) _) _ _ _; k_here; k_dflt (refine' set_refs ?ok1 ?ok2 ?ok3 ?ok4 ?ok5 ?ok6 ?_; (case ok1 => k_asm); (case ok2 => k_asm); (case ok3 => assumption); (case ok4 => omega); (case ok5 => omega); (case ok6 => omega); k_whole); intro _ _ Nz; (try simp only [Int.toNat_natCast] at Nz); revert Nz; intro _; (try k_sweep))) | (with_reducible (show wpAny _ _ (subscriptTail _ _ (Value.ref _) (Value.int _ _)) _ _ _; k_here; k_dflt (refine' sub_refs ?ok1 ?ok2 ?ok3 ?ok4 ?ok5 ?_ ?ok6 ?ok7; (case ok1 => k_asm); (case ok2 => k_mem); (case ok3 => first | assumption | exact le_pred (by assumption) (by assumption) | omega); (case ok4 => first | assumption | exact lt_pred (by assumption) (by assumption) (by assumption) | omega); (case ok5 => first | assumption | omega); (case ok6 => with_unfolding_all rfl); (case ok7 => (intro _; with_unfolding_all rfl)); k_whole); intro _ ha'; (try simp only [Int.toNat_natCast] at ha'); revert ha'; intro _)) | walk1 | (dsimp only; walk1))
    · rename _ = _ / 2 => hv
      rename _ = _ - _ => hv2
      rename xs[_]? = some _ => hpar
      rename ltL _ _ = true => hlt
      rename (↑sp : Int) < _ => hsj
      obtain ⟨f, rfl⟩ : ∃ f', f = f' + 1 := ⟨f - 1, by omega⟩
      have hsj' : sp < j := by omega
      rw [hv2, show ((j : Int) - 1) / 2 = (((j - 1) / 2 : Nat) : Int) from by omega] at hv
      subst hv
      simp only [Int.toNat_natCast] at hpar
      have hgp := getD_of hpar
      subst hgp
      refine' ksw_end (xs.set j (xs.getD ((j - 1) / 2) 0), (j - 1) / 2, _) (by assumption) (by assumption) ?e1 trivial ?e4 ?e5 ?e6 ?e7
      case e1 => exact fun p hp => hp
      case e4 => kst_all
      case e5 => ksw_same
      case e7 => show (j - 1) / 2 < j; omega
      case e6 =>
        refine ⟨by simpa using hl, by show (j - 1) / 2 < as.length; omega, ?_, f, by show (j - 1) / 2 ≤ f; omega, ?_⟩
        · intro y hy
          rcases List.mem_or_eq_of_mem_set hy with h | rfl
          · exact hx y h
          · exact hx _ (List.mem_of_getElem? hpar)
        · simp only [sdLoop, hsj', if_true, hpar] at hs
          rw [if_pos hlt] at hs
          exact hs
    · rename _ = _ / 2 => hv
      rename _ = _ - _ => hv2
      rename xs[_]? = some _ => hpar
      rename ltL _ _ = false => hlt
      rename (↑sp : Int) < _ => hsj
      obtain ⟨f, rfl⟩ : ∃ f', f = f' + 1 := ⟨f - 1, by omega⟩
      have hsj' : sp < j := by omega
      rw [hv2, show ((j : Int) - 1) / 2 = (((j - 1) / 2 : Nat) : Int) from by omega] at hv
      subst hv
      simp only [Int.toNat_natCast] at hpar
      refine hret _ _ _ _ (by assumption) (by assumption) ⟨rfl, ?_⟩
      simp only [sdLoop, hsj', if_true, hpar] at hs
      rw [if_neg (by simp [ltK, hlt])] at hs
      rw [← hs]
    · rename ¬ _ => hsj
      have hsj' : ¬ sp < j := by omega
      refine hret _ _ _ _ (by assumption) (by assumption) ⟨rfl, ?_⟩
      have hs' : xs.set j new = siftdown (ltK key) as sp pos := by
        rw [← hs]
        cases f <;> simp [sdLoop, hsj']
      rw [← hs']
end
section

def suLoop {α : Type} (lt : α → α → Bool) : Nat → List α → Nat → List α × Nat
  | 0, xs, pos => (xs, pos)
  | f + 1, xs, pos => match xs[2 * pos + 1]? with
    | none => (xs, pos)
    | some c => match xs[2 * pos + 1 + 1]? with
      | some r => if lt c r then suLoop lt f (xs.set pos c) (2 * pos + 1) else suLoop lt f (xs.set pos r) (2 * pos + 1 + 1)
      | none => suLoop lt f (xs.set pos c) (2 * pos + 1)
def siftup {α : Type} (lt : α → α → Bool) (xs : List α) (pos : Nat) : List α := match xs[pos]? with
  | some new => siftdown lt ((suLoop lt xs.length xs pos).1.set (suLoop lt xs.length xs pos).2 new) pos (suLoop lt xs.length xs pos).2
  | none => xs

theorem siftup_spec (w : World) (H : Addr) (as : List Addr) (n : Nat) (pos : Nat) (t1 : Tok) (rest : Led) (key : Addr → List Int) (hz : as.length < 1000) (hpos : pos < as.length) :
    Spec w 42 4 20 [.ref H, .int pos t1] (fun news => news = (H, refs as n) :: rest ∧ (∀ p ∈ rest, p.1 ≠ H) ∧ KeyIn rest key as) (fun _ r news' => r = .none ∧ news' = (H, refs (siftup (ltK key) as pos) n) :: rest) := by
  unfold Spec
  k_fill
  intro p loose mean mg mb dp un gd cn cs a ccd cl outer A₀ base h₀ L m news s Q E B F X N T hk hd hu hpre hret
  obtain ⟨rfl, hne, hkey⟩ := hpre
  refine wpAny_call ?_
  k_dflt ktr_enter
  repeat' ((fail_if_success (with_reducible show wpAny _ _ (exec (Stmt.While _ _ _ _) _) _ _ _)); (fail_if_success (with_reducible show wpAny _ _ (exec (Stmt.For _ _ _ _ _) _) _ _ _)); first | (k_unfold; (try dsimp only)) | (with_reducible (show wpAny _ _ (binaryOp Operator.Add (Value.int _ _) (Value.int _ _)) _ _ _; k_here; (refine my_add ?_); intro _ _ _)) | (with_reducible (show wpAny _ _ (binaryOp Operator.Mult (Value.int _ _) (Value.int _ _)) _ _ _; k_here; (refine my_mul (by first | (left; decide) | (right; decide) | (left; assumption) | (right; assumption) | omega) ?_); intro _ _ _)) | (with_reducible (show wpAny _ _ (call (Value.builtin "len") [Value.ref _]) _ _ _; k_here; k_dflt (refine' len_refs ?ok1 ?ok2 ?ok3 ?_; (case ok1 => k_asm); (case ok2 => k_mem); (case ok3 => first | assumption | omega); k_whole); intro _ _)) | (with_reducible (show wpAny _ _ (compareOp CmpOp.Lt (Value.ref _) (Value.ref _)) _ _ _; k_here; k_dflt (refine' lt_refs ?ok1 ?ok2 ?ok3 ?ok4 ?ok5 ?_; (case ok1 => k_asm); (case ok2 => assumption); (case ok3 => first | assumption | exact mem_of_get (by assumption) | exact mem_of_get' (by assumption) (by assumption)); (case ok4 => first | assumption | exact mem_of_get (by assumption) | exact mem_of_get' (by assumption) (by assumption)); (case ok5 => ktr_units); k_whole))) | (with_reducible (show wpAny _ _ (setItem (Value.ref _) (Value.int _ _) _) _ _ _; k_here; k_dflt (refine' set_refs ?ok1 ?ok2 ?ok3 ?ok4 ?ok5 ?ok6 ?_; (case ok1 => k_asm); (case ok2 => k_asm); (case ok3 => assumption); (case ok4 => omega); (case ok5 => omega); (case ok6 => omega); k_whole); intro _ _ Nz; (try simp only [Int.toNat_natCast] at Nz); revert Nz; intro _; (try k_sweep))) | (with_reducible (show wpAny _ _ (subscriptTail _ _ (Value.ref _) (Value.int _ _)) _ _ _; k_here; k_dflt (refine' sub_refs ?ok1 ?ok2 ?ok3 ?ok4 ?ok5 ?_ ?ok6 ?ok7; (case ok1 => k_asm); (case ok2 => k_mem); (case ok3 => first | assumption | exact le_pred (by assumption) (by assumption) | omega); (case ok4 => first | assumption | exact lt_pred (by assumption) (by assumption) (by assumption) | omega); (case ok5 => first | assumption | omega); (case ok6 => with_unfolding_all rfl); (case ok7 => (intro _; with_unfolding_all rfl)); k_whole); intro _ ha'; (try simp only [Int.toNat_natCast] at ha'); revert ha'; intro _)) | walk1 | (dsimp only; walk1))
  rename as[_]? = some _ => hnew
  rename _ = _ * _ => hv2
  rename _ = _ + _ => hv
  rw [hv2, show (2 : Int) * (pos : Int) + 1 = ((2 * pos + 1 : Nat) : Int) from by omega] at hv
  subst hv
  have hgn := getD_of hnew
  subst hgn
  rename Fr _ _ _ _ => lF'
  rename News _ _ _ _ => lN'
  refine' ksw_while (σ := List Addr × Nat × Tok × Tok) (fun c => (H, refs c.1 n) :: rest) (fun c => [(Str.ofString "pos", .int c.2.1 c.2.2.1), (Str.ofString "childpos", .int ((2 * c.2.1 + 1 : Nat) : Int) c.2.2.2)]) (fun _ => True) [Str.ofString "rightpos"]
    (fun c => c.1.length = as.length ∧ c.2.1 < as.length ∧ (∀ x ∈ c.1, x ∈ as) ∧ ∃ f, as.length ≤ f + c.2.1 ∧ suLoop (ltK key) f c.1 c.2.1 = suLoop (ltK key) as.length as pos) (fun c => as.length - c.2.1) (as, pos, t1, _) lF' lN' trivial ?kk ?kp ?turn
  case kk => kst_all
  case kp => exact ⟨rfl, hpos, fun _ h => h, as.length, by omega, rfl⟩
  case turn =>
    rintro ⟨xs, j, tj, tc⟩ u h tk - ⟨hl, hj, hx, f, hf, hs⟩ F1 N1
    dsimp only at hl hj hf hs N1 hx
    dsimp only [kstB] at F1
    (try k_fold)
    repeat' ((fail_if_success (with_reducible show wpAny _ _ (exec (Stmt.While _ _ _ _) _) _ _ _)); (fail_if_success (with_reducible show wpAny _ _ (exec (Stmt.For _ _ _ _ _) _) _ _ _)); first | (k_unfold; (try dsimp only)) | (with_reducible (show wpAny _ _ (binaryOp Operator.Add (Value.int _ _) (Value.int _ _)) _ _ _; k_here; (refine my_add ?_); intro _ _ _)) | (with_reducible (show wpAny _ _ (binaryOp Operator.Mult (Value.int _ _) (Value.int _ _)) _ _ _; k_here; (refine my_mul (by first | (left; decide) | (right; decide) | (left; assumption) | (right; assumption) | omega) ?_); intro _ _ _)) | (with_reducible (show wpAny _ _ (call (Value.builtin "len") [Value.ref _]) _ _ _; k_here; k_dflt (refine' len_refs ?ok1 ?ok2 ?ok3 ?_; (case ok1 => k_asm); (case ok2 => k_mem); (case ok3 => first | assumption | omega); k_whole); intro _ _)) | (with_reducible (show wpAny _ _ (compareOp CmpOp.Lt (Value.ref _) (Value.ref _)) _ _ _; k_here; k_dflt (refine' lt_refs ?ok1 ?ok2 ?ok3 ?ok4 ?ok5 ?_; (case ok1 => k_asm); (case ok2 => assumption); (case ok3 => first | assumption | exact mem_of_get (by assumption) | exact mem_of_get' (by assumption) (by assumption)); (case ok4 => first | assumption | exact mem_of_get (by assumption) | exact mem_of_get' (by assumption) (by assumption)); (case ok5 => ktr_units); k_whole))) | (with_reducible (show wpAny _ _ (setItem (Value.ref _) (Value.int _ _) _) _ _ _; k_here; k_dflt (refine' set_refs ?ok1 ?ok2 ?ok3 ?ok4 ?ok5 ?ok6 ?_; (case ok1 => k_asm); (case ok2 => k_asm); (case ok3 => assumption); (case ok4 => omega); (case ok5 => omega); (case ok6 => omega); k_whole); intro _ _ Nz; (try simp only [Int.toNat_natCast] at Nz); revert Nz; intro _; (try k_sweep))) | (with_reducible (show wpAny _ _ (subscriptTail _ _ (Value.ref _) (Value.int _ _)) _ _ _; k_here; k_dflt (refine' sub_refs ?ok1 ?ok2 ?ok3 ?ok4 ?ok5 ?_ ?ok6 ?ok7; (case ok1 => k_asm); (case ok2 => k_mem); (case ok3 => first | assumption | exact le_pred (by assumption) (by assumption) | omega); (case ok4 => first | assumption | exact lt_pred (by assumption) (by assumption) (by assumption) | omega); (case ok5 => first | assumption | omega); (case ok6 => with_unfolding_all rfl); (case ok7 => (intro _; with_unfolding_all rfl)); k_whole); intro _ ha'; (try simp only [Int.toNat_natCast] at ha'); revert ha'; intro _)) | walk1 | (dsimp only; walk1))
    · rename _ = _ + _ => hvn
      rename _ = _ * _ => hvm
      revert hvn
      rename _ = _ + _ => hvr
      intro hvn
      rename xs[_]? = some _ => h3
      revert h3
      rename xs[_]? = some _ => h2
      revert h2
      rename xs[_]? = some _ => h1
      intro h2 h3
      rename ltK key _ _ = true => hlt
      rename _ < (as.length : Int) => hb2
      revert hb2
      rename _ < (as.length : Int) => hb1
      intro hb2
      obtain ⟨f, rfl⟩ : ∃ f', f = f' + 1 := ⟨f - 1, by omega⟩
      rw [hvm, show 2 * ((2 * j + 1 : Nat) : Int) + 1 = ((2 * (2 * j + 1) + 1 : Nat) : Int) from by omega] at hvn
      subst hvn
      rw [show ((2 * j + 1 : Nat) : Int) + 1 = ((2 * j + 1 + 1 : Nat) : Int) from by omega] at hvr
      subst hvr
      rw [Int.toNat_natCast] at h2
      have hgp := getD_of h3
      subst hgp
      refine' ksw_end (xs.set j (xs.getD (2 * j + 1) 0), 2 * j + 1, _, _) (by assumption) (by assumption) ?e1 trivial ?e4 ?e5 ?e6 ?e7
      case e1 => exact fun p hp => hp
      case e4 => kst_all
      case e5 => ksw_same
      case e7 => show as.length - (2 * j + 1) < as.length - j; omega
      case e6 =>
        refine ⟨by simpa using hl, by show 2 * j + 1 < as.length; omega, ?_, f, by show as.length ≤ f + (2 * j + 1); omega, ?_⟩
        · intro y hy
          rcases List.mem_or_eq_of_mem_set hy with h | rfl
          · exact hx y h
          · exact hx _ (List.mem_of_getElem? h3)
        · obtain rfl := Option.some.inj (h1.symm.trans h3)
          simp only [suLoop, h1, h2] at hs
          rw [if_pos hlt] at hs
          exact hs
    · rename _ = _ + _ => hvn
      rename _ = _ * _ => hvm
      revert hvn
      rename _ = _ + _ => hvr
      intro hvn
      rename xs[_]? = some _ => h3
      revert h3
      rename xs[_]? = some _ => h2
      revert h2
      rename xs[_]? = some _ => h1
      intro h2 h3
      rename ltK key _ _ = false => hlt
      rename _ < (as.length : Int) => hb2
      revert hb2
      rename _ < (as.length : Int) => hb1
      intro hb2
      obtain ⟨f, rfl⟩ : ∃ f', f = f' + 1 := ⟨f - 1, by omega⟩
      rw [show ((2 * j + 1 : Nat) : Int) + 1 = ((2 * j + 1 + 1 : Nat) : Int) from by omega] at hvr
      subst hvr
      rw [hvm, show 2 * ((2 * j + 1 + 1 : Nat) : Int) + 1 = ((2 * (2 * j + 1 + 1) + 1 : Nat) : Int) from by omega] at hvn
      subst hvn
      rw [Int.toNat_natCast] at h2 h3
      have hgp := getD_of h3
      subst hgp
      refine' ksw_end (xs.set j (xs.getD (2 * j + 1 + 1) 0), 2 * j + 1 + 1, _, _) (by assumption) (by assumption) ?e1 trivial ?e4 ?e5 ?e6 ?e7
      case e1 => exact fun p hp => hp
      case e4 => kst_all
      case e5 => ksw_same
      case e7 => show as.length - (2 * j + 1 + 1) < as.length - j; omega
      case e6 =>
        refine ⟨by simpa using hl, by show 2 * j + 1 + 1 < as.length; omega, ?_, f, by show as.length ≤ f + (2 * j + 1 + 1); omega, ?_⟩
        · intro y hy
          rcases List.mem_or_eq_of_mem_set hy with h | rfl
          · exact hx y h
          · exact hx _ (List.mem_of_getElem? h3)
        · obtain rfl := Option.some.inj (h2.symm.trans h3)
          simp only [suLoop, h1, h2] at hs
          rw [if_neg (by rw [hlt]; simp)] at hs
          exact hs
    · rename _ = _ + _ => hvn
      rename _ = _ * _ => hvm
      revert hvn
      rename _ = _ + _ => hvr
      intro hvn
      rename xs[_]? = some _ => h3
      rename _ < (as.length : Int) => hb1
      obtain ⟨f, rfl⟩ : ∃ f', f = f' + 1 := ⟨f - 1, by omega⟩
      rw [hvm, show 2 * ((2 * j + 1 : Nat) : Int) + 1 = ((2 * (2 * j + 1) + 1 : Nat) : Int) from by omega] at hvn
      subst hvn
      rename ¬ _ => hb2
      have hgp := getD_of h3
      subst hgp
      refine' ksw_end (xs.set j (xs.getD (2 * j + 1) 0), 2 * j + 1, _, _) (by assumption) (by assumption) ?e1 trivial ?e4 ?e5 ?e6 ?e7
      case e1 => exact fun p hp => hp
      case e4 => kst_all
      case e5 => ksw_same
      case e7 => show as.length - (2 * j + 1) < as.length - j; omega
      case e6 =>
        refine ⟨by simpa using hl, by show 2 * j + 1 < as.length; omega, ?_, f, by show as.length ≤ f + (2 * j + 1); omega, ?_⟩
        · intro y hy
          rcases List.mem_or_eq_of_mem_set hy with h | rfl
          · exact hx y h
          · exact hx _ (List.mem_of_getElem? h3)
        · have h4 : xs[2 * j + 1 + 1]? = none := by simp; omega
          simp only [suLoop, h3, h4] at hs
          exact hs
    · rename ¬ _ => hb
      have hn1 : xs[2 * j + 1]? = none := by simp; omega
      have hR : suLoop (ltK key) as.length as pos = (xs, j) := by
        rw [← hs]
        cases f <;> simp [suLoop, hn1]
      have hxn : ∀ y ∈ xs.set j (as.getD pos 0), y ∈ as := by
        intro y hy
        rcases List.mem_or_eq_of_mem_set hy with h | rfl
        · exact hx y h
        · exact List.mem_of_getElem? hnew
      refine Spec.use (siftdown_spec w H (xs.set j (as.getD pos 0)) n pos j _ _ rest key (by simp; omega) (by simp; omega)) (by k_asm) (by k_asm) (by k_asm) (by k_asm) (by k_asm) rfl (by ktr_room) (by ktr_units) ⟨rfl, hne, fun y hy => hkey y (hxn y hy)⟩ ?_
      rintro r news' h' tk' F' N' ⟨rfl, rfl⟩
      repeat' ((fail_if_success (with_reducible show wpAny _ _ (exec (Stmt.While _ _ _ _) _) _ _ _)); (fail_if_success (with_reducible show wpAny _ _ (exec (Stmt.For _ _ _ _ _) _) _ _ _)); first | (k_unfold; (try dsimp only)) | (with_reducible (show wpAny _ _ (binaryOp Operator.Add (Value.int _ _) (Value.int _ _)) _ _ _; k_here; (refine my_add ?_); intro _ _ _)) | (with_reducible (show wpAny _ _ (binaryOp Operator.Mult (Value.int _ _) (Value.int _ _)) _ _ _; k_here; (refine my_mul (by first | (left; decide) | (right; decide) | (left; assumption) | (right; assumption) | omega) ?_); intro _ _ _)) | (with_reducible (show wpAny _ _ (call (Value.builtin "len") [Value.ref _]) _ _ _; k_here; k_dflt (refine' len_refs ?ok1 ?ok2 ?ok3 ?_; (case ok1 => k_asm); (case ok2 => k_mem); (case ok3 => first | assumption | omega); k_whole); intro _ _)) | (with_reducible (show wpAny _ _ (compareOp CmpOp.Lt (Value.ref _) (Value.ref _)) _ _ _; k_here; k_dflt (refine' lt_refs ?ok1 ?ok2 ?ok3 ?ok4 ?ok5 ?_; (case ok1 => k_asm); (case ok2 => assumption); (case ok3 => first | assumption | exact mem_of_get (by assumption) | exact mem_of_get' (by assumption) (by assumption)); (case ok4 => first | assumption | exact mem_of_get (by assumption) | exact mem_of_get' (by assumption) (by assumption)); (case ok5 => ktr_units); k_whole))) | (with_reducible (show wpAny _ _ (setItem (Value.ref _) (Value.int _ _) _) _ _ _; k_here; k_dflt (refine' set_refs ?ok1 ?ok2 ?ok3 ?ok4 ?ok5 ?ok6 ?_; (case ok1 => k_asm); (case ok2 => k_asm); (case ok3 => assumption); (case ok4 => omega); (case ok5 => omega); (case ok6 => omega); k_whole); intro _ _ Nz; (try simp only [Int.toNat_natCast] at Nz); revert Nz; intro _; (try k_sweep))) | (with_reducible (show wpAny _ _ (subscriptTail _ _ (Value.ref _) (Value.int _ _)) _ _ _; k_here; k_dflt (refine' sub_refs ?ok1 ?ok2 ?ok3 ?ok4 ?ok5 ?_ ?ok6 ?ok7; (case ok1 => k_asm); (case ok2 => k_mem); (case ok3 => first | assumption | exact le_pred (by assumption) (by assumption) | omega); (case ok4 => first | assumption | exact lt_pred (by assumption) (by assumption) (by assumption) | omega); (case ok5 => first | assumption | omega); (case ok6 => with_unfolding_all rfl); (case ok7 => (intro _; with_unfolding_all rfl)); k_whole); intro _ ha'; (try simp only [Int.toNat_natCast] at ha'); revert ha'; intro _)) | walk1 | (dsimp only; walk1))
      refine hret _ _ _ _ (by assumption) (by assumption) ⟨rfl, ?_⟩
      unfold siftup
      rw [hR, hnew]
end
section

theorem heapreplace_spec (w : World) (H x : Addr) (as : List Addr) (n : Nat) (rest : Led) (key : Addr → List Int) (hz : as.length < 1000) (hpos : 0 < as.length) :
    Spec w 21 6 30 [.ref H, .ref x] (fun news => news = (H, refs as n) :: rest ∧ (∀ p ∈ rest, p.1 ≠ H) ∧ KeyIn rest key (x :: as)) (fun _ r news' => r = .ref (as.getD 0 0) ∧ news' = (H, refs (siftup (ltK key) (as.set 0 x) 0) n) :: rest) := by
  unfold Spec
  k_fill
  intro p loose mean mg mb dp un gd cn cs a ccd cl outer A₀ base h₀ L m news s Q E B F X N T hk hd hu hpre hret
  obtain ⟨rfl, hne, hkey⟩ := hpre
  refine wpAny_call ?_
  k_dflt ktr_enter
  repeat' ((fail_if_success (with_reducible show wpAny _ _ (exec (Stmt.While _ _ _ _) _) _ _ _)); (fail_if_success (with_reducible show wpAny _ _ (exec (Stmt.For _ _ _ _ _) _) _ _ _)); first | (k_unfold; (try dsimp only)) | (with_reducible (show wpAny _ _ (call (Value.builtin "len") [Value.ref _]) _ _ _; k_here; k_dflt (refine' len_refs ?ok1 ?ok2 ?ok3 ?_; (case ok1 => k_asm); (case ok2 => k_mem); (case ok3 => first | assumption | omega); k_whole); intro _ _)) | (with_reducible (show wpAny _ _ (setItem (Value.ref _) (Value.int _ _) _) _ _ _; k_here; k_dflt (refine' set_refs ?ok1 ?ok2 ?ok3 ?ok4 ?ok5 ?ok6 ?_; (case ok1 => k_asm); (case ok2 => k_asm); (case ok3 => assumption); (case ok4 => omega); (case ok5 => omega); (case ok6 => omega); k_whole); intro _ _ Nz; (try simp only [Int.toNat_natCast] at Nz); revert Nz; intro _; (try k_sweep))) | (with_reducible (show wpAny _ _ (subscriptTail _ _ (Value.ref _) (Value.int _ _)) _ _ _; k_here; k_dflt (refine' sub_refs ?ok1 ?ok2 ?ok3 ?ok4 ?ok5 ?_ ?ok6 ?ok7; (case ok1 => k_asm); (case ok2 => k_mem); (case ok3 => first | assumption | exact le_pred (by assumption) (by assumption) | omega); (case ok4 => first | assumption | exact lt_pred (by assumption) (by assumption) (by assumption) | omega); (case ok5 => first | assumption | omega); (case ok6 => with_unfolding_all rfl); (case ok7 => (intro _; with_unfolding_all rfl)); k_whole); intro _ ha'; (try simp only [Int.toNat_natCast] at ha'); revert ha'; intro _)) | walk1 | (dsimp only; walk1))
  rename as[_]? = some _ => h0
  have h0' : as[0]? = some _ := h0
  have hg0 := getD_of h0'
  subst hg0
  refine Spec.use (siftup_spec w H (as.set 0 x) n 0 _ rest key (by simp; omega) (by simp; omega)) (by k_asm) (by k_asm) (by k_asm) (by k_asm) (by k_asm) rfl (by ktr_room) (by ktr_units) ⟨rfl, hne, fun y hy => hkey y (List.mem_cons.mpr ((List.mem_or_eq_of_mem_set hy).symm))⟩ ?_
  rintro r news' h' tk' F' N' ⟨rfl, rfl⟩
  repeat' ((fail_if_success (with_reducible show wpAny _ _ (exec (Stmt.While _ _ _ _) _) _ _ _)); (fail_if_success (with_reducible show wpAny _ _ (exec (Stmt.For _ _ _ _ _) _) _ _ _)); first | (k_unfold; (try dsimp only)) | (with_reducible (show wpAny _ _ (call (Value.builtin "len") [Value.ref _]) _ _ _; k_here; k_dflt (refine' len_refs ?ok1 ?ok2 ?ok3 ?_; (case ok1 => k_asm); (case ok2 => k_mem); (case ok3 => first | assumption | omega); k_whole); intro _ _)) | (with_reducible (show wpAny _ _ (setItem (Value.ref _) (Value.int _ _) _) _ _ _; k_here; k_dflt (refine' set_refs ?ok1 ?ok2 ?ok3 ?ok4 ?ok5 ?ok6 ?_; (case ok1 => k_asm); (case ok2 => k_asm); (case ok3 => assumption); (case ok4 => omega); (case ok5 => omega); (case ok6 => omega); k_whole); intro _ _ Nz; (try simp only [Int.toNat_natCast] at Nz); revert Nz; intro _; (try k_sweep))) | (with_reducible (show wpAny _ _ (subscriptTail _ _ (Value.ref _) (Value.int _ _)) _ _ _; k_here; k_dflt (refine' sub_refs ?ok1 ?ok2 ?ok3 ?ok4 ?ok5 ?_ ?ok6 ?ok7; (case ok1 => k_asm); (case ok2 => k_mem); (case ok3 => first | assumption | exact le_pred (by assumption) (by assumption) | omega); (case ok4 => first | assumption | exact lt_pred (by assumption) (by assumption) (by assumption) | omega); (case ok5 => first | assumption | omega); (case ok6 => with_unfolding_all rfl); (case ok7 => (intro _; with_unfolding_all rfl)); k_whole); intro _ ha'; (try simp only [Int.toNat_natCast] at ha'); revert ha'; intro _)) | walk1 | (dsimp only; walk1))
  exact hret _ _ _ _ (by assumption) (by assumption) ⟨rfl, rfl⟩

end
section

abbrev rangeObj (a b c : Int) (t u v : Tok) : Obj := { cls := .type "range", data := .fields #[.int a t, .int b u, .int c v] }
abbrev rangeIt (x left step : Int) : Obj := { cls := .type "range_iterator", data := .fields #[rawInt x, rawInt left, rawInt step] }

section
variable {prog : Program} {w : World} {A : Around} {E : Value → Shared → Prop} {s : Shared} {h₀ : Heap} {L : Addr} {m : Str → Option Value} {news : Led} {Q : Value → Shared → Prop}

theorem my_range1 {n : Int} {t : Tok} (F : Fr h₀ L s.heap m) (N : News h₀ L s.heap news)
    (h : ∀ D h' t1 t2 tk, Fr h₀ L h' m → News h₀ L h' ((D, rangeObj 0 n 1 t1 t t2) :: news) → (∀ p ∈ news, p.1 < D) → Q (.ref D) { s with heap := h', toks := tk }) : wpAny (model prog w) A (call (.type "range") [.int n t]) Q E s :=
  call_range_1 (h _ _ _ _ _ (F.push _) (News.push F N _) fun p hp => Heap.lt_size (N p hp).1)
theorem my_range2 {a b : Int} {t u : Tok} (F : Fr h₀ L s.heap m) (N : News h₀ L s.heap news)
    (h : ∀ D h' t2 tk, Fr h₀ L h' m → News h₀ L h' ((D, rangeObj a b 1 t u t2) :: news) → (∀ p ∈ news, p.1 < D) → Q (.ref D) { s with heap := h', toks := tk }) : wpAny (model prog w) A (call (.type "range") [.int a t, .int b u]) Q E s :=
  call_range_2 (h _ _ _ _ (F.push _) (News.push F N _) fun p hp => Heap.lt_size (N p hp).1)

theorem meets_range_reversed (r : Addr) (b : Int) (t u v : Tok) (h0 : 0 ≤ b) (h1 : b < 2 ^ 60) :
    Meets (Builtin.«range.__reversed__» ⟨[.ref r], []⟩) (fun _ R s => s.heap.get? r = some (rangeObj 0 b 1 t u v) ∧ R (.ok (.ret (Value.ref s.heap.objs.size))) { s with heap := s.heap.push (rangeIt (b - 1) b (-1)) }) :=
  .of_wp fun prog w A R s h => by
    obtain ⟨hp, g, d, tk, os⟩ := s; obtain ⟨hl, h⟩ := h
    have hn : Builtin.Range.rangeSize 0 b 1 = b := by rw [rangeSize_one]; split <;> omega
    have hsmall : (Builtin.Range.rangeFitsLong 0 && Builtin.Range.rangeFitsLong b && Builtin.Range.rangeFitsLong 1 && Builtin.Range.rangeFitsLong (-1) && Builtin.Range.rangeFitsLong (0 - 1) && Builtin.Range.rangeFitsLong b) = true := by
      simp only [Builtin.Range.rangeFitsLong, Bool.and_eq_true, decide_eq_true_eq]; omega
    have e : (0 : Int) + (b - 1) * 1 = b - 1 := by omega
    wp_walk
    simp only [hn, hsmall, e, if_true, Bool.not_true, Bool.false_eq_true, if_false]
    wp_walk
    exact ⟨_, rfl, h⟩

theorem code_reversed_range {r : Addr} {b : Int} {t u v : Tok} {Q₁ : Value → Shared → Prop} (hr : s.heap.get? r = some (rangeObj 0 b 1 t u v)) (h0 : 0 ≤ b) (h1 : b < 2 ^ 60)
    (h : Q₁ (.ref s.heap.objs.size) { s with heap := s.heap.push (rangeIt (b - 1) b (-1)) }) :
    codeAny (model prog w) A (.call (.builtin "reversed.__new__") ⟨[.type "reversed", .ref r], []⟩) (wants Q₁ E) s := by
  have hT : s.TypeIs (.ref r) "range" := ⟨_, hr, rfl⟩
  refine codeAny_of_tree ?_
  show wpAny _ A.in1 (do checkBuiltinCall "reversed.__new__" ⟨[.type "reversed", .ref r], []⟩; again (.builtin "reversed.__new__" ⟨[.type "reversed", .ref r], []⟩)) _ _ s
  refine wpAny_bind (wpAny_of_eq (F.newCall_reversed_1 _) (wpAny_pure ⟨plainId_quiet F.plain_reversed_new _, codeAny_builtin F.entry_reversed_new ?_⟩))
  rw [Around.under_plainId F.plain_reversed_new _]
  unfold Builtin.«reversed.__new__»
  refine wpAny_bind (wpAny_of_eq (newClass_reversed _) ?_)
  dsimp only
  refine wpAny_bind (wpAny_of_eq (a := ()) (by first | rfl | kernel_rfl) ?_)
  refine wpAny_bind (wpAny_of_eq (a := ()) (by first | rfl | kernel_rfl) ?_)
  refine wpAny_bind (wpAny_specialOf hT F.slot_range_reversed.lookup ?_)
  dsimp only
  refine wpAny_bind (wpAny_of_eq (F.slot_range_reversed.bind _) ?_)
  dsimp only
  rw [if_neg (show ¬ ((Value.builtin "range.__reversed__" == Value.none) = true) from Bool.false_ne_true)]
  refine wpAny_bind (wpAny_rule ?_)
  refine wpAny_bind (m := runValue (.call (.builtin "range.__reversed__") ⟨[.ref r], []⟩)) (show wpAny _ _ (call (.builtin "range.__reversed__") [.ref r]) _ _ _ from
    call_meets F.slot_range_reversed hT F.entry_range_reversed (F.args_range_reversed_1 _) (meets_range_reversed r b t u v h0 h1) ⟨hr, ?_⟩)
  first
  | exact wpAny_pure h
  | exact wpAny_bind (wpAny_pure (wpAny_pure h))

theorem sub_rit_reversed : isSubtype (.type "range_iterator") (.type "reversed") = pure false := by rw [isSubtype_type]; kernel_rfl
theorem my_reversed_range {r : Addr} {b : Int} {t u v : Tok} (Fx : Fr h₀ L s.heap m) (N : News h₀ L s.heap news) (hm : (r, rangeObj 0 b 1 t u v) ∈ news) (h0 : 0 ≤ b) (h1 : b < 2 ^ 60)
    (h : ∀ D h', Fr h₀ L h' m → News h₀ L h' ((D, rangeIt (b - 1) b (-1)) :: news) → (∀ p ∈ news, p.1 < D) → Q (.ref D) { s with heap := h' }) : wpAny (model prog w) A (call (.type "reversed") [.ref r]) Q E s := by
  refine callType_other (U := "range_iterator") (Q₁ := fun obj s₁ => obj = .ref s.heap.objs.size ∧ s₁ = { s with heap := s.heap.push (rangeIt (b - 1) b (-1)) }) (by decide +kernel) F.create_reversed ⟨_, _, F.mro_reversed⟩ F.made_reversed sub_rit_reversed (F.typeCall_reversed_1 _)
    (code_reversed_range (N _ hm).1 h0 h1 ⟨rfl, rfl⟩) ?_
  rintro obj s₁ ⟨rfl, rfl⟩
  exact ⟨⟨_, Heap.get?_push_size _ rfl, rfl⟩, h _ _ (Fr.push Fx _) (News.push Fx N _) fun p hp => Heap.lt_size (N p hp).1⟩
end

/-- a for's turn is through: the iterator stands, the rest as J says -/
def ForEnd (h₀ : Heap) (L : Addr) (I : Addr × Obj) (J : (Str → Option Value) → Led → Prop) (s s₂ : Shared) : Prop :=
  ∃ h' tk m' led news', s₂ = { s with heap := h', toks := tk } ∧ Fr h₀ L h' m' ∧ News h₀ L h' led ∧ I ∈ led ∧ (∀ p ∈ news', p ∈ led ∧ p.1 ≠ I.1) ∧ J m' news'
def ForPost (h₀ : Heap) (L : Addr) (I : Addr × Obj) (J : (Str → Option Value) → Led → Prop) (s : Shared) (Q : Flow → Shared → Prop) (f : Flow) (s₂ : Shared) : Prop := match f with
  | .ret v => Q (.ret v) s₂
  | .brk => Q .next s₂
  | _ => ForEnd h₀ L I J s s₂

section
variable {prog : Program} {w : World} {A : Around} {E : Value → Shared → Prop} {s : Shared} {env : Env} {h₀ : Heap} {x : Str} {body : List Stmt} {Q : Flow → Shared → Prop}
/-- a for over a range's iterator that the ledger bears -/
theorem for_rangeIt {I : Addr} {a c : Int} {n : Nat} {m : Str → Option Value} {news : Led} (J : Nat → (Str → Option Value) → Led → Prop) (hh : A.handled = none) (F : Fr h₀ env.locals s.heap m) (N : News h₀ env.locals s.heap ((I, rangeIt a n c) :: news)) (hnI : ∀ p ∈ news, p.1 ≠ I) (h0 : J 0 m news)
    (turn : ∀ i t m₁ news₁ h tk o, i < n → J i m₁ news₁ → (∀ p ∈ news₁, p.1 ≠ I) → Fr h₀ env.locals h (fun y => if y = x then some (.int (a + i * c) t) else m₁ y) → News h₀ env.locals h ((I, o) :: news₁) →
      wpAny (model prog w) A (execs body env) (ForPost h₀ env.locals (I, o) (J (i + 1)) { s with heap := h, toks := tk } Q) E { s with heap := h, toks := tk })
    (done : ∀ m₁ news₁ h tk, J n m₁ news₁ → Fr h₀ env.locals h m₁ → News h₀ env.locals h news₁ → Q .next { s with heap := h, toks := tk }) :
    wpAny (model prog w) A (pyIter (.ref I)) (fun it s₂ => LoopAtV prog w A h₀ env x body Q E it s₂) E s := by
  have hI := N _ (List.mem_cons_self ..)
  have W := Walks.range (prog := prog) (w := w) hh I a c n
  refine wpAny_pyIter_rangeiter hI.1 ?_
  refine ⟨I, _, _, n, _, _, m, news, J, rfl, W, ?_, ?_, ?_, ?_, F, (fun p hp => N p (List.mem_cons_of_mem _ hp)), h0, ?_, ?_⟩
  · intro h
    exact hI.2.1 (List.mem_singleton.mp h).symm
  · intro b hb
    rw [List.mem_singleton.mp hb]
    exact hI.2.2
  · intro p hp h
    exact hnI p hp (List.mem_singleton.mp h)
  · have := hI.1
    simpa using this
  · rintro i v m₁ news₁ s₁ own ⟨hh', tk', rfl⟩ hin ⟨t, rfl⟩ hJ hoff hown hget hall hst F₁ N₁
    have hI' := hall I (by simp) hI.2.2 _ hst
    have hne : ∀ p ∈ news₁, p.1 ≠ I := fun p hp h => hoff p hp (by simp [h])
    have N₂ : News h₀ env.locals hh' ((I, rangeIt (a + ((i + 1 : Nat) : Int) * c) ((n : Int) - ((i + 1 : Nat) : Int)) c) :: news₁) := fun p hp => by
      rcases List.mem_cons.mp hp with rfl | hp
      · exact N₁ _ (List.mem_append_left _ hI')
      · exact N₁ p (List.mem_append_right _ hp)
    refine wpAny_mono (turn i t m₁ news₁ hh' tk' _ hin hJ hne F₁ N₂) (fun f s₂ p => ?_) fun _ _ e => e
    have fin : ForEnd h₀ env.locals (I, rangeIt (a + ((i + 1 : Nat) : Int) * c) ((n : Int) - ((i + 1 : Nat) : Int)) c) (J (i + 1)) { s with heap := hh', toks := tk' } s₂ → LoopStepU h₀ env.locals [I] own (J (i + 1)) { s with heap := hh', toks := tk' } .next s₂ := by
      rintro ⟨h', tk, m', led, news', e, F', N', hIl, hn, hj⟩
      refine ⟨rfl, h', tk, m', news', e, F', fun p hp => ?_, fun p hp h => (hn p hp).2 (List.mem_singleton.mp h), hj⟩
      rcases List.mem_append.mp hp with hp | hp
      · have h1 := List.mem_singleton.mp (hown p hp)
        have h2 := hget p hp
        have h3 : p = (I, rangeIt (a + ((i + 1 : Nat) : Int) * c) ((n : Int) - ((i + 1 : Nat) : Int)) c) := by
          obtain ⟨p1, p2⟩ := p
          simp only at h1 h2
          subst h1
          have h4 : hh'.get? p1 = some (rangeIt (a + ((i + 1 : Nat) : Int) * c) ((n : Int) - ((i + 1 : Nat) : Int)) c) := hst
          rw [h2] at h4
          rw [Option.some.inj h4]
        exact h3 ▸ N' _ hIl
      · exact N' p (hn p hp).1
    cases f with
    | ret v => exact .ret p
    | brk => exact .brk p
    | next => exact .next (fin p)
    | cont => exact .cont (fin p)
  · rintro h' tk m' news' F' N' _ hJ
    exact done m' news' h' tk hJ F' N'
end

section
variable {prog : Program} {w : World} {A : Around} {E : Value → Shared → Prop} {s : Shared} {a b : Int} {t u : Tok} {Q : Value → Shared → Prop}
theorem my_floordiv (hb : 0 < b) (ha : b < 1000000) (h : ∀ v : Int, v = a / b → ∀ tk, Q (.int v tk) { s with toks := s.toks + 1 }) : wpAny (model prog w) A (binaryOp .FloorDiv (.int a t) (.int b u)) Q E s :=
  floordiv_int (by omega) (by rw [Int.fdiv_eq_ediv_of_nonneg _ (by omega)]; exact h _ rfl _) (Or.inl (PyProof.noPylong_small (by omega)))
theorem my_mod (hb : 0 < b) (h : ∀ v : Int, v = a % b → ∀ tk, Q (.int v tk) { s with toks := s.toks + 1 }) : wpAny (model prog w) A (binaryOp .Mod (.int a t) (.int b u)) Q E s :=
  mod_int (by omega) (by rw [Int.fmod_eq_emod_of_nonneg _ (by omega)]; exact h _ rfl _)
end

theorem frame_is {ps : List (Str × Value)} {stored : List Str} {m₀ m₁ : Str → Option Value} (h1 : ∀ p ∈ ps, m₁ p.1 = some p.2) (h2 : ∀ z, (∀ p ∈ ps, z ≠ p.1) → stored.contains z = false → m₁ z = m₀ z) :
    kstB (fun z => if stored.contains z then m₁ z else m₀ z) ps = m₁ := by
  funext y
  refine kstB_eq h1 fun hn => ?_
  show (if stored.contains y = true then m₁ y else m₀ y) = m₁ y
  cases h3 : stored.contains y with
  | true => simp
  | false => simp only [Bool.false_eq_true, if_false]; exact (h2 y hn h3).symm

/-- as ForEnd, the frame told by names -/
def ForEndS {σ : Type} (h₀ : Heap) (L : Addr) (I : Addr × Obj) (ps : σ → List (Str × Value)) (stored : List Str) (m₀ : Str → Option Value) (Inv : σ → Led → Prop) (s s₂ : Shared) : Prop :=
  ∃ (c' : σ) (h' : Heap) (tk : Nat) (m' : Str → Option Value) (led news' : Led), s₂ = { s with heap := h', toks := tk } ∧ Fr h₀ L h' m' ∧ News h₀ L h' led ∧ I ∈ led ∧ (∀ p ∈ news', p ∈ led ∧ p.1 ≠ I.1) ∧
    (∀ p ∈ ps c', m' p.1 = some p.2) ∧ (∀ z, (∀ p ∈ ps c', z ≠ p.1) → stored.contains z = false → m' z = m₀ z) ∧ Inv c' news'
def ForPostS {σ : Type} (h₀ : Heap) (L : Addr) (I : Addr × Obj) (ps : σ → List (Str × Value)) (stored : List Str) (m₀ : Str → Option Value) (Inv : σ → Led → Prop) (s : Shared) (Q : Flow → Shared → Prop) (f : Flow) (s₂ : Shared) : Prop := match f with
  | .ret v => Q (.ret v) s₂
  | .brk => Q .next s₂
  | _ => ForEndS h₀ L I ps stored m₀ Inv s s₂
theorem forS_end {σ : Type} {h₀ : Heap} {L : Addr} {I : Addr × Obj} {ps : σ → List (Str × Value)} {stored : List Str} {m₀ m' : Str → Option Value} {Inv : σ → Led → Prop} {s : Shared} {h' : Heap} {tk : Nat} {led : Led} (c' : σ) (news' : Led) (F : Fr h₀ L h' m') (N : News h₀ L h' led) (hI : I ∈ led)
    (hn : ∀ p ∈ news', p ∈ led ∧ p.1 ≠ I.1) (hk : ∀ p ∈ ps c', m' p.1 = some p.2) (hr : ∀ z, (∀ p ∈ ps c', z ≠ p.1) → stored.contains z = false → m' z = m₀ z) (hi : Inv c' news') : ForEndS h₀ L I ps stored m₀ Inv s { s with heap := h', toks := tk } :=
  ⟨c', h', tk, m', led, news', rfl, F, N, hI, hn, hk, hr, hi⟩
section
variable {prog : Program} {w : World} {A : Around} {E : Value → Shared → Prop} {s : Shared} {env : Env} {h₀ : Heap} {x : Str} {body : List Stmt} {Q : Flow → Shared → Prop}
theorem for_rangeS {σ : Type} {I : Addr} {a c : Int} {n : Nat} {m₀ : Str → Option Value} {news : Led} (ps : σ → List (Str × Value)) (stored : List Str) (Inv : Nat → σ → Led → Prop) (c₀ : σ) (hh : A.handled = none) (F : Fr h₀ env.locals s.heap m₀) (N : News h₀ env.locals s.heap ((I, rangeIt a n c) :: news)) (hnI : ∀ p ∈ news, p.1 ≠ I)
    (hk : ∀ p ∈ ps c₀, m₀ p.1 = some p.2) (h0 : Inv 0 c₀ news)
    (turn : ∀ i t cc (u : Str → Option Value) news₁ h tk o, i < n → Inv i cc news₁ → (∀ p ∈ news₁, p.1 ≠ I) → Fr h₀ env.locals h (fun y => if y = x then some (.int (a + i * c) t) else kstB (fun z => if stored.contains z then u z else m₀ z) (ps cc) y) → News h₀ env.locals h ((I, o) :: news₁) →
      wpAny (model prog w) A (execs body env) (ForPostS h₀ env.locals (I, o) ps stored m₀ (Inv (i + 1)) { s with heap := h, toks := tk } Q) E { s with heap := h, toks := tk })
    (done : ∀ cc (u : Str → Option Value) news₁ h tk, Inv n cc news₁ → Fr h₀ env.locals h (kstB (fun z => if stored.contains z then u z else m₀ z) (ps cc)) → News h₀ env.locals h news₁ → Q .next { s with heap := h, toks := tk }) :
    wpAny (model prog w) A (pyIter (.ref I)) (fun it s₂ => LoopAtV prog w A h₀ env x body Q E it s₂) E s := by
  refine for_rangeIt (fun i m₁ news₁ => ∃ cc, Inv i cc news₁ ∧ (∀ p ∈ ps cc, m₁ p.1 = some p.2) ∧ (∀ z, (∀ p ∈ ps cc, z ≠ p.1) → stored.contains z = false → m₁ z = m₀ z)) hh F N hnI ⟨c₀, h0, hk, fun _ _ _ => rfl⟩ ?_ ?_
  · rintro i t m₁ news₁ h tk o hi ⟨cc, hinv, h1, h2⟩ hne F₁ N₁
    have e := frame_is h1 h2
    rw [← e] at F₁
    refine wpAny_mono (turn i t cc m₁ news₁ h tk o hi hinv hne F₁ N₁) (fun f s₂ p => ?_) fun _ _ e => e
    have fin : ForEndS h₀ env.locals (I, o) ps stored m₀ (Inv (i + 1)) { s with heap := h, toks := tk } s₂ → ForEnd h₀ env.locals (I, o) (fun m₁ news₁ => ∃ cc, Inv (i + 1) cc news₁ ∧ (∀ p ∈ ps cc, m₁ p.1 = some p.2) ∧ (∀ z, (∀ p ∈ ps cc, z ≠ p.1) → stored.contains z = false → m₁ z = m₀ z)) { s with heap := h, toks := tk } s₂ := by
      rintro ⟨c', h', tk, m', led, news', e, F', N', hI, hn, hk', hr', hi'⟩
      exact ⟨h', tk, m', led, news', e, F', N', hI, hn, c', hi', hk', hr'⟩
    cases f with
    | ret v => exact p
    | brk => exact p
    | next => exact fin p
    | cont => exact fin p
  · rintro m₁ news₁ h tk ⟨cc, hinv, h1, h2⟩ F₁ N₁
    have e := frame_is h1 h2
    rw [← e] at F₁
    exact done cc m₁ news₁ h tk hinv F₁ N₁
end
end
section

theorem refs_ne_ints {as : List Addr} {n k : Nat} {vs : List Value} {xs : List Int} (hi : IntsAre vs xs) (h0 : vs.length = 3) : refs as n ≠ listOf vs.toArray k := by
  intro h
  have h1 : (Data.seq (as.map Value.ref).toArray n) = Data.seq vs.toArray k := congrArg Obj.data h
  injection h1 with h2 h3
  have h4 : as.map Value.ref = vs := by simpa using congrArg Array.toList h2
  subst h4
  cases as with
  | nil => simp at h0
  | cons a r => cases hi

theorem key_front {h₀ h : Heap} {L H : Addr} {as : List Addr} {n : Nat} {key : Addr → List Int} {news rest : Led} {bs : List Addr} (N : News h₀ L h news) (hm : (H, refs as n) ∈ news) (hk : KeyIn news key bs) (hr : ∀ p ∈ news, p.1 ≠ H → p ∈ rest) : KeyIn rest key bs := by
  intro a ha
  obtain ⟨vs, k, h1, h2, h3⟩ := hk a ha
  refine ⟨vs, k, hr _ h1 fun e => ?_, h2, h3⟩
  simp only at e
  subst e
  exact refs_ne_ints h2 h3 (news_same N hm h1)

/-- a contract over the ledger's head, as one over membership -/
theorem Spec.member {w : World} {f : Addr} {d u : Nat} {args : List Value} {H : Addr} {as bs cs : List Addr} {n : Nat} {key : Addr → List Int} {v : Value}
    (S : ∀ rest, Spec w f d u args (fun news => news = (H, refs as n) :: rest ∧ (∀ p ∈ rest, p.1 ≠ H) ∧ KeyIn rest key bs) (fun _ r news' => r = v ∧ news' = (H, refs cs n) :: rest)) :
    Spec w f d u args (fun news => (H, refs as n) ∈ news ∧ KeyIn news key bs) (fun news r news' => r = v ∧ (H, refs cs n) ∈ news' ∧ (∀ p ∈ news, p.1 ≠ H → p ∈ news')) := by
  intro p loose mean mg mb dp un gd cn cs' a ccd cl outer A₀ base h₀ L m news s Q E B F X N T hk hd hu ⟨hm, hkey⟩ hret
  obtain ⟨rest, N', hne, hin, hout⟩ := news_front N hm
  refine S rest p loose mean mg mb dp un gd cn cs' a ccd cl outer A₀ base h₀ L m _ s Q E B F X N' T hk hd hu ⟨rfl, hne, key_front N hm hkey hin⟩ ?_
  rintro r news' h' tk' F' N'' ⟨rfl, rfl⟩
  exact hret _ _ _ _ F' N'' ⟨rfl, .head _, fun q hq hqn => .tail _ (hin q hq hqn)⟩

theorem siftup_mem (w : World) (H : Addr) (as : List Addr) (n : Nat) (pos : Nat) (t1 : Tok) (key : Addr → List Int) (hz : as.length < 1000) (hpos : pos < as.length) :
    Spec w 42 4 20 [.ref H, .int pos t1] (fun news => (H, refs as n) ∈ news ∧ KeyIn news key as) (fun news r news' => r = .none ∧ (H, refs (siftup (ltK key) as pos) n) ∈ news' ∧ (∀ p ∈ news, p.1 ≠ H → p ∈ news')) :=
  Spec.member fun rest => siftup_spec w H as n pos t1 rest key hz hpos
theorem heapreplace_mem (w : World) (H x : Addr) (as : List Addr) (n : Nat) (key : Addr → List Int) (hz : as.length < 1000) (hpos : 0 < as.length) :
    Spec w 21 6 30 [.ref H, .ref x] (fun news => (H, refs as n) ∈ news ∧ KeyIn news key (x :: as)) (fun news r news' => r = .ref (as.getD 0 0) ∧ (H, refs (siftup (ltK key) (as.set 0 x) 0) n) ∈ news' ∧ (∀ p ∈ news, p.1 ≠ H → p ∈ news')) :=
  Spec.member fun rest => heapreplace_spec w H x as n rest key hz hpos

/-- heapify's turns: the places from k - 1 down to 0 -/
def heapLoop {α : Type} (lt : α → α → Bool) : Nat → List α → List α
  | 0, xs => xs
  | k + 1, xs => heapLoop lt k (siftup lt xs k)

theorem sdLoop_length {α : Type} (lt : α → α → Bool) (new : α) (sp : Nat) : ∀ (f : Nat) (xs : List α) (pos : Nat), (sdLoop lt new sp f xs pos).length = xs.length
  | 0, xs, pos => by simp [sdLoop]
  | f + 1, xs, pos => by
    unfold sdLoop
    split
    · split
      · split
        · rw [sdLoop_length lt new sp f]; simp
        · simp
      · rfl
    · simp
theorem siftdown_length {α : Type} (lt : α → α → Bool) (xs : List α) (sp pos : Nat) : (siftdown lt xs sp pos).length = xs.length := by
  unfold siftdown; split
  · exact sdLoop_length ..
  · rfl
theorem suLoop_length {α : Type} (lt : α → α → Bool) : ∀ (f : Nat) (xs : List α) (pos : Nat), (suLoop lt f xs pos).1.length = xs.length
  | 0, xs, pos => rfl
  | f + 1, xs, pos => by
    unfold suLoop
    split
    · rfl
    · split
      · split
        · rw [suLoop_length lt f]; simp
        · rw [suLoop_length lt f]; simp
      · rw [suLoop_length lt f]; simp
theorem siftup_length {α : Type} (lt : α → α → Bool) (xs : List α) (pos : Nat) : (siftup lt xs pos).length = xs.length := by
  unfold siftup; split
  · rw [siftdown_length]; simp [suLoop_length]
  · rfl

theorem sdLoop_mem {α : Type} (lt : α → α → Bool) (new : α) (sp : Nat) : ∀ (f : Nat) (xs : List α) (pos : Nat) (y : α), y ∈ sdLoop lt new sp f xs pos → y ∈ xs ∨ y = new
  | 0, xs, pos, y, h => List.mem_or_eq_of_mem_set h
  | f + 1, xs, pos, y, h => by
    unfold sdLoop at h
    split at h
    · split at h
      · rename_i par hp
        split at h
        · rcases sdLoop_mem lt new sp f _ _ y h with h | h
          · rcases List.mem_or_eq_of_mem_set h with h | h
            · exact .inl h
            · exact .inl (h ▸ List.mem_of_getElem? hp)
          · exact .inr h
        · exact List.mem_or_eq_of_mem_set h
      · exact .inl h
    · exact List.mem_or_eq_of_mem_set h
theorem siftdown_mem {α : Type} (lt : α → α → Bool) (xs : List α) (sp pos : Nat) (y : α) (h : y ∈ siftdown lt xs sp pos) : y ∈ xs := by
  unfold siftdown at h
  split at h
  · rename_i hn
    rcases sdLoop_mem _ _ _ _ _ _ y h with h | h
    · exact h
    · exact h ▸ List.mem_of_getElem? hn
  · exact h
theorem suLoop_mem {α : Type} (lt : α → α → Bool) : ∀ (f : Nat) (xs : List α) (pos : Nat) (y : α), y ∈ (suLoop lt f xs pos).1 → y ∈ xs
  | 0, xs, pos, y, h => h
  | f + 1, xs, pos, y, h => by
    unfold suLoop at h
    split at h
    · exact h
    · rename_i c hc
      have one : ∀ (z : α) (q : Nat), z ∈ xs → y ∈ (suLoop lt f (xs.set pos z) q).1 → y ∈ xs := fun z q hz hy => by
        rcases List.mem_or_eq_of_mem_set (suLoop_mem lt f _ _ y hy) with h | h
        · exact h
        · exact h ▸ hz
      split at h
      · rename_i r hr
        split at h
        · exact one _ _ (List.mem_of_getElem? hc) h
        · exact one _ _ (List.mem_of_getElem? hr) h
      · exact one _ _ (List.mem_of_getElem? hc) h
theorem siftup_sub {α : Type} (lt : α → α → Bool) (xs : List α) (pos : Nat) (y : α) (h : y ∈ siftup lt xs pos) : y ∈ xs := by
  unfold siftup at h
  split at h
  · rename_i new hn
    rcases List.mem_or_eq_of_mem_set (siftdown_mem _ _ _ _ y h) with h | h
    · exact suLoop_mem _ _ _ _ y h
    · exact h ▸ List.mem_of_getElem? hn
  · exact h

theorem heapify_spec (w : World) (H : Addr) (as : List Addr) (n : Nat) (rest : Led) (key : Addr → List Int) (hz : as.length < 1000) :
    Spec w 28 6 30 [.ref H] (fun news => news = (H, refs as n) :: rest ∧ (∀ p ∈ rest, p.1 ≠ H) ∧ KeyIn rest key as) (fun _ r news' => r = .none ∧ ∃ rest', (∀ p ∈ rest, p ∈ rest') ∧ (∀ p ∈ rest', p.1 ≠ H) ∧ news' = (H, refs (heapLoop (ltK key) (as.length / 2) as) n) :: rest') := by
  unfold Spec
  k_fill
  intro p loose mean mg mb dp un gd cn cs a ccd cl outer A₀ base h₀ L m news s Q E B F X N T hk hd hu hpre hret
  obtain ⟨rfl, hne, hkey⟩ := hpre
  refine wpAny_call ?_
  k_dflt ktr_enter
  repeat' ((fail_if_success (with_reducible show wpAny _ _ (exec (Stmt.While _ _ _ _) _) _ _ _)); (fail_if_success (with_reducible show wpAny _ _ (exec (Stmt.For _ _ _ _ _) _) _ _ _)); first | (k_unfold; (try dsimp only)) | (with_reducible (show wpAny _ _ (binaryOp Operator.FloorDiv (Value.int _ _) (Value.int _ _)) _ _ _; k_here; (refine my_floordiv (by first | assumption | omega) (by first | assumption | omega) ?_); intro _ _ _)) | (with_reducible (show wpAny _ _ (call (Value.builtin "len") [Value.ref _]) _ _ _; k_here; k_dflt (refine' len_refs ?ok1 ?ok2 ?ok3 ?_; (case ok1 => k_asm); (case ok2 => k_mem); (case ok3 => first | assumption | omega); k_whole); intro _ _)) | (with_reducible (show wpAny _ _ (call (Value.type "range") _) _ _ _; k_here; k_dflt (first | (refine' my_range1 ?ok1 ?ok2 ?_; (case ok1 => k_asm); (case ok2 => k_asm); k_whole; intro _ _ _ _ _ _ _ _) | (refine' my_range2 ?ok1 ?ok2 ?_; (case ok1 => k_asm); (case ok2 => k_asm); k_whole; intro _ _ _ _ _ _ _)); (try k_sweep))) | (with_reducible (show wpAny _ _ (call (Value.type "reversed") _) _ _ _; k_here; k_dflt (refine' my_reversed_range ?ok1 ?ok2 ?ok3 ?ok4 ?ok5 ?_; (case ok1 => k_asm); (case ok2 => k_asm); (case ok3 => k_mem); (case ok4 => omega); (case ok5 => omega); k_whole); intro _ _ _ _ _; (try k_sweep))) | walk1 | (dsimp only; walk1))
  (first | (with_reducible (show wpAny _ _ (binaryOp Operator.FloorDiv (Value.int _ _) (Value.int _ _)) _ _ _; k_here; (refine my_floordiv (by first | assumption | omega) (by first | assumption | omega) ?_); intro _ _ _)) | (with_reducible (show wpAny _ _ (call (Value.builtin "len") [Value.ref _]) _ _ _; k_here; k_dflt (refine' len_refs ?ok1 ?ok2 ?ok3 ?_; (case ok1 => k_asm); (case ok2 => k_mem); (case ok3 => first | assumption | omega); k_whole); intro _ _)) | (with_reducible (show wpAny _ _ (call (Value.type "range") _) _ _ _; k_here; k_dflt (first | (refine' my_range1 ?ok1 ?ok2 ?_; (case ok1 => k_asm); (case ok2 => k_asm); k_whole; intro _ _ _ _ _ _ _ _) | (refine' my_range2 ?ok1 ?ok2 ?_; (case ok1 => k_asm); (case ok2 => k_asm); k_whole; intro _ _ _ _ _ _ _)); (try k_sweep))) | (with_reducible (show wpAny _ _ (call (Value.type "reversed") _) _ _ _; k_here; k_dflt (refine' my_reversed_range ?ok1 ?ok2 ?ok3 ?ok4 ?ok5 ?_; (case ok1 => k_asm); (case ok2 => k_asm); (case ok3 => k_mem); (case ok4 => omega); (case ok5 => omega); k_whole); intro _ _ _ _ _; (try k_sweep))) | walk1)
  repeat' ((fail_if_success (with_reducible show wpAny _ _ (exec (Stmt.While _ _ _ _) _) _ _ _)); (fail_if_success (with_reducible show wpAny _ _ (exec (Stmt.For _ _ _ _ _) _) _ _ _)); first | (k_unfold; (try dsimp only)) | (with_reducible (show wpAny _ _ (binaryOp Operator.FloorDiv (Value.int _ _) (Value.int _ _)) _ _ _; k_here; (refine my_floordiv (by first | assumption | omega) (by first | assumption | omega) ?_); intro _ _ _)) | (with_reducible (show wpAny _ _ (call (Value.builtin "len") [Value.ref _]) _ _ _; k_here; k_dflt (refine' len_refs ?ok1 ?ok2 ?ok3 ?_; (case ok1 => k_asm); (case ok2 => k_mem); (case ok3 => first | assumption | omega); k_whole); intro _ _)) | (with_reducible (show wpAny _ _ (call (Value.type "range") _) _ _ _; k_here; k_dflt (first | (refine' my_range1 ?ok1 ?ok2 ?_; (case ok1 => k_asm); (case ok2 => k_asm); k_whole; intro _ _ _ _ _ _ _ _) | (refine' my_range2 ?ok1 ?ok2 ?_; (case ok1 => k_asm); (case ok2 => k_asm); k_whole; intro _ _ _ _ _ _ _)); (try k_sweep))) | (with_reducible (show wpAny _ _ (call (Value.type "reversed") _) _ _ _; k_here; k_dflt (refine' my_reversed_range ?ok1 ?ok2 ?ok3 ?ok4 ?ok5 ?_; (case ok1 => k_asm); (case ok2 => k_asm); (case ok3 => k_mem); (case ok4 => omega); (case ok5 => omega); k_whole); intro _ _ _ _ _; (try k_sweep))) | walk1 | (dsimp only; walk1))
  rename _ = _ / _ => hv
  rw [show (as.length : Int) / 2 = ((as.length / 2 : Nat) : Int) from by omega] at hv
  subst hv
  rename Fr _ _ _ _ => lF'
  rename News _ _ _ _ => lN'
  rename ∀ p, p ∈ _ → Prod.fst p < _ => l1
  rename Addr => I
  have hnI : ∀ p ∈ (_ : Led), p.1 ≠ I := fun p hp => Nat.ne_of_lt (l1 p hp)
  have lN2 := news_sub (led' := (I, rangeIt (((as.length / 2 : Nat) : Int) - 1) ((as.length / 2 : Nat) : Int) (-1)) :: (H, refs as n) :: rest) lN' (fun p hp => (List.mem_cons.mp hp).elim (fun e => e ▸ .head _) fun h => .tail _ (.tail _ h))
  clear lN'
  refine for_rangeS (σ := List Addr × Led) (fun _ => []) [Str.ofString "i"] (fun i c news₁ => news₁ = (H, refs c.1 n) :: c.2 ∧ (∀ p ∈ rest, p ∈ c.2) ∧ (∀ p ∈ c.2, p.1 ≠ H) ∧
    heapLoop (ltK key) (as.length / 2 - i) c.1 = heapLoop (ltK key) (as.length / 2) as ∧ c.1.length = as.length ∧ (∀ y ∈ c.1, y ∈ as)) (as, rest) rfl lF' lN2 (fun p hp => hnI p (.tail _ hp)) (fun _ h => nomatch h) ⟨rfl, fun _ h => h, hne, rfl, rfl, fun _ h => h⟩ ?_ ?_
  · rintro i t ⟨xs, rest'⟩ u news₁ h tk o hi ⟨rfl, h1, h2, h3, h4, h5⟩ hneI F1 N1
    dsimp only at h1 h2 h3 h4 h5 F1 N1
    dsimp only [kstB] at F1
    rw [show ((as.length / 2 : Nat) : Int) - 1 + (i : Int) * (-1) = ((as.length / 2 - 1 - i : Nat) : Int) from by omega] at F1
    k_fold
    repeat' ((fail_if_success (with_reducible show wpAny _ _ (exec (Stmt.While _ _ _ _) _) _ _ _)); (fail_if_success (with_reducible show wpAny _ _ (exec (Stmt.For _ _ _ _ _) _) _ _ _)); first | (k_unfold; (try dsimp only)) | (with_reducible (show wpAny _ _ (binaryOp Operator.FloorDiv (Value.int _ _) (Value.int _ _)) _ _ _; k_here; (refine my_floordiv (by first | assumption | omega) (by first | assumption | omega) ?_); intro _ _ _)) | (with_reducible (show wpAny _ _ (call (Value.builtin "len") [Value.ref _]) _ _ _; k_here; k_dflt (refine' len_refs ?ok1 ?ok2 ?ok3 ?_; (case ok1 => k_asm); (case ok2 => k_mem); (case ok3 => first | assumption | omega); k_whole); intro _ _)) | (with_reducible (show wpAny _ _ (call (Value.type "range") _) _ _ _; k_here; k_dflt (first | (refine' my_range1 ?ok1 ?ok2 ?_; (case ok1 => k_asm); (case ok2 => k_asm); k_whole; intro _ _ _ _ _ _ _ _) | (refine' my_range2 ?ok1 ?ok2 ?_; (case ok1 => k_asm); (case ok2 => k_asm); k_whole; intro _ _ _ _ _ _ _)); (try k_sweep))) | (with_reducible (show wpAny _ _ (call (Value.type "reversed") _) _ _ _; k_here; k_dflt (refine' my_reversed_range ?ok1 ?ok2 ?ok3 ?ok4 ?ok5 ?_; (case ok1 => k_asm); (case ok2 => k_asm); (case ok3 => k_mem); (case ok4 => omega); (case ok5 => omega); k_whole); intro _ _ _ _ _; (try k_sweep))) | walk1 | (dsimp only; walk1))
    have hIH : H ≠ I := hneI (H, refs xs n) (.head _)
    refine Spec.use (siftup_spec w H xs n (as.length / 2 - 1 - i) _ ((I, o) :: rest') key (by omega) (by omega)) (by k_asm) (by k_asm) (by k_asm) (news_sub N1 (led' := (H, refs xs n) :: (I, o) :: rest') (fun p hp => ?_)) (by k_asm) rfl (by ktr_room) (by ktr_units)
      ⟨rfl, fun p hp => ?_, fun y hy => ?_⟩ ?_
    · simp only [List.mem_cons] at hp ⊢
      rcases hp with h | h | h <;> simp [h]
    · rcases List.mem_cons.mp hp with rfl | hp
      · exact hIH.symm
      · exact h2 p hp
    · obtain ⟨vs, k, k1, k2, k3⟩ := hkey y (h5 y hy)
      exact ⟨vs, k, .tail _ (h1 _ k1), k2, k3⟩
    rintro r news' h' tk' F' N' ⟨rfl, rfl⟩
    repeat' ((fail_if_success (with_reducible show wpAny _ _ (exec (Stmt.While _ _ _ _) _) _ _ _)); (fail_if_success (with_reducible show wpAny _ _ (exec (Stmt.For _ _ _ _ _) _) _ _ _)); first | (k_unfold; (try dsimp only)) | (with_reducible (show wpAny _ _ (binaryOp Operator.FloorDiv (Value.int _ _) (Value.int _ _)) _ _ _; k_here; (refine my_floordiv (by first | assumption | omega) (by first | assumption | omega) ?_); intro _ _ _)) | (with_reducible (show wpAny _ _ (call (Value.builtin "len") [Value.ref _]) _ _ _; k_here; k_dflt (refine' len_refs ?ok1 ?ok2 ?ok3 ?_; (case ok1 => k_asm); (case ok2 => k_mem); (case ok3 => first | assumption | omega); k_whole); intro _ _)) | (with_reducible (show wpAny _ _ (call (Value.type "range") _) _ _ _; k_here; k_dflt (first | (refine' my_range1 ?ok1 ?ok2 ?_; (case ok1 => k_asm); (case ok2 => k_asm); k_whole; intro _ _ _ _ _ _ _ _) | (refine' my_range2 ?ok1 ?ok2 ?_; (case ok1 => k_asm); (case ok2 => k_asm); k_whole; intro _ _ _ _ _ _ _)); (try k_sweep))) | (with_reducible (show wpAny _ _ (call (Value.type "reversed") _) _ _ _; k_here; k_dflt (refine' my_reversed_range ?ok1 ?ok2 ?ok3 ?ok4 ?ok5 ?_; (case ok1 => k_asm); (case ok2 => k_asm); (case ok3 => k_mem); (case ok4 => omega); (case ok5 => omega); k_whole); intro _ _ _ _ _; (try k_sweep))) | walk1 | (dsimp only; walk1))
    refine forS_end (siftup (ltK key) xs (as.length / 2 - 1 - i), rest') ((H, refs (siftup (ltK key) xs (as.length / 2 - 1 - i)) n) :: rest') (by assumption) (by assumption) (.tail _ (.head _)) (fun p hp => ?_) (fun _ h => nomatch h) (by ksw_same) ⟨rfl, h1, h2, ?_, ?_, ?_⟩
    · rcases List.mem_cons.mp hp with rfl | hp
      · exact ⟨.head _, hIH⟩
      · exact ⟨.tail _ (.tail _ hp), hneI p (.tail _ hp)⟩
    · show heapLoop (ltK key) (as.length / 2 - (i + 1)) (siftup (ltK key) xs (as.length / 2 - 1 - i)) = _
      rw [← h3, show as.length / 2 - i = (as.length / 2 - (i + 1)) + 1 from by omega]
      show _ = heapLoop (ltK key) (as.length / 2 - (i + 1)) (siftup (ltK key) xs (as.length / 2 - (i + 1)))
      rw [show as.length / 2 - 1 - i = as.length / 2 - (i + 1) from by omega]
    · exact (siftup_length ..).trans h4
    · exact fun y hy => h5 y (siftup_sub _ _ _ y hy)
  · rintro ⟨xs, rest'⟩ u news₁ h tk ⟨rfl, h1, h2, h3, h4, h5⟩ F1 N1
    dsimp only [kstB] at h1 h2 h3 h4 h5 F1 N1
    repeat' ((fail_if_success (with_reducible show wpAny _ _ (exec (Stmt.While _ _ _ _) _) _ _ _)); (fail_if_success (with_reducible show wpAny _ _ (exec (Stmt.For _ _ _ _ _) _) _ _ _)); first | (k_unfold; (try dsimp only)) | (with_reducible (show wpAny _ _ (binaryOp Operator.FloorDiv (Value.int _ _) (Value.int _ _)) _ _ _; k_here; (refine my_floordiv (by first | assumption | omega) (by first | assumption | omega) ?_); intro _ _ _)) | (with_reducible (show wpAny _ _ (call (Value.builtin "len") [Value.ref _]) _ _ _; k_here; k_dflt (refine' len_refs ?ok1 ?ok2 ?ok3 ?_; (case ok1 => k_asm); (case ok2 => k_mem); (case ok3 => first | assumption | omega); k_whole); intro _ _)) | (with_reducible (show wpAny _ _ (call (Value.type "range") _) _ _ _; k_here; k_dflt (first | (refine' my_range1 ?ok1 ?ok2 ?_; (case ok1 => k_asm); (case ok2 => k_asm); k_whole; intro _ _ _ _ _ _ _ _) | (refine' my_range2 ?ok1 ?ok2 ?_; (case ok1 => k_asm); (case ok2 => k_asm); k_whole; intro _ _ _ _ _ _ _)); (try k_sweep))) | (with_reducible (show wpAny _ _ (call (Value.type "reversed") _) _ _ _; k_here; k_dflt (refine' my_reversed_range ?ok1 ?ok2 ?ok3 ?ok4 ?ok5 ?_; (case ok1 => k_asm); (case ok2 => k_asm); (case ok3 => k_mem); (case ok4 => omega); (case ok5 => omega); k_whole); intro _ _ _ _ _; (try k_sweep))) | walk1 | (dsimp only; walk1))
    rw [Nat.sub_self] at h3
    refine hret _ _ _ _ (by assumption) (by assumption) ⟨rfl, rest', h1, h2, ?_⟩
    rw [← h3]
    rfl
end
section

/-- parts of a def, taken out of the text's own term -/
def defBody : Stmt → List Stmt
  | .FunctionDef _ _ b _ _ _ _ _ _ _ => b
  | _ => []
def defArgs : Stmt → Arguments
  | .FunctionDef _ a _ _ _ _ _ _ _ _ => a
  | _ => default
def defScope : Stmt → Scope
  | .FunctionDef _ _ _ _ _ _ s _ _ _ => s
  | _ => default
def defPos : Stmt → Pos
  | .FunctionDef _ _ _ _ _ _ _ _ _ p => p
  | _ => default
/-- _int2digits' inner def; _digits2int's -/
def i2dInner : Stmt := (defBody (Challenge.pw_op0097_01.main.body.getD 9 default)).getD 1 default
def d2iInner : Stmt := (defBody (Challenge.pw_op0097_01.main.body.getD 10 default)).getD 0 default

/-- a code table: no inner code yet, or the one of the def at line, col -/
def TabOk (P : Addr) (pos : Pos) (qual : Str) (news : Led) : Prop :=
  ∃ ps, (P, tabObj ps) ∈ news ∧ (ps = #[] ∨ ∃ c' oc vs t, ps = #[rawInt pos.line, rawInt pos.col, .ref c'] ∧ (c', oc) ∈ news ∧ oc.data = .fields vs ∧ vs[1]? = some (.str qual t))

/-- the two shapes of a code table; an object that is none -/
def IsTab (o : Obj) : Prop := o = tabObj #[] ∨ ∃ l c a, o = tabObj #[rawInt l, rawInt c, .ref a]
def Solid (o : Obj) : Prop := ¬ IsTab o
theorem Solid.of_cls {o : Obj} (h : o.cls ≠ .none) : Solid o := by
  rintro (e | ⟨l, c, a, e⟩)
  · exact h (by rw [e])
  · exact h (by rw [e])
theorem Solid.of_data {o : Obj} (h : ∀ vs, o.data ≠ .fields vs) : Solid o := by
  rintro (e | ⟨l, c, a, e⟩)
  · exact h _ (by rw [e])
  · exact h _ (by rw [e])
theorem Solid.of_code {o : Obj} {vs : Array Value} {q : Str} {t : Tok} (h : o.data = .fields vs) (h1 : vs[1]? = some (.str q t)) : Solid o := by
  rintro (e | ⟨l, c, a, e⟩)
  · rw [e] at h; injection h with h; subst h; cases h1
  · rw [e] at h; injection h with h; subst h; cases h1
theorem solid_list (its : Array Value) (n : Nat) : Solid (listOf its n) := .of_cls (by nofun)
theorem TabOk.tab {P : Addr} {pos : Pos} {qual : Str} {news : Led} (h : TabOk P pos qual news) : ∃ o, IsTab o ∧ (P, o) ∈ news := by
  obtain ⟨ps, h1, h2⟩ := h
  refine ⟨_, ?_, h1⟩
  rcases h2 with rfl | ⟨c', oc, vs, t, rfl, _⟩
  · exact .inl rfl
  · exact .inr ⟨_, _, _, rfl⟩
theorem Solid.ne {h₀ h : Heap} {L P : Addr} {pos : Pos} {qual : Str} {news : Led} {q : Addr × Obj} (N : News h₀ L h news) (T : TabOk P pos qual news) (hq : q ∈ news) (hs : Solid q.2) : q.1 ≠ P := by
  obtain ⟨o, h1, h2⟩ := T.tab
  intro e
  obtain ⟨a, b⟩ := q
  simp only at e hs
  subst e
  exact hs (news_same N h2 hq ▸ h1)
/-- a table stays where all but another address is kept -/
theorem TabOk.keep {P P' : Addr} {pos pos' : Pos} {qual qual' : Str} {news news' : Led} {h₀ h : Heap} {L : Addr} (N : News h₀ L h news) (T : TabOk P pos qual news) (T' : TabOk P' pos' qual' news) (hne : P ≠ P') (hk : ∀ q ∈ news, q.1 ≠ P' → q ∈ news') : TabOk P pos qual news' := by
  obtain ⟨ps, h1, h2⟩ := T
  refine ⟨ps, hk _ h1 hne, ?_⟩
  rcases h2 with rfl | ⟨c', oc, vs, t, rfl, hc, hd, hv⟩
  · exact .inl rfl
  · exact .inr ⟨c', oc, vs, t, rfl, hk _ hc (Solid.ne N T' hc (.of_code hd hv)), hd, hv⟩
/-- a table stays where every solid object and the table stay -/
theorem TabOk.mono {P : Addr} {pos : Pos} {qual : Str} {news news' : Led} (T : TabOk P pos qual news) (h1 : ∀ o, IsTab o → (P, o) ∈ news → (P, o) ∈ news') (h2 : ∀ q ∈ news, Solid q.2 → (∃ vs, q.2.data = .fields vs) → q ∈ news') : TabOk P pos qual news' := by
  obtain ⟨ps, h3, h4⟩ := T
  rcases h4 with rfl | ⟨c', oc, vs, t, rfl, hc, hd, hv⟩
  · exact ⟨_, h1 _ (.inl rfl) h3, .inl rfl⟩
  · exact ⟨_, h1 _ (.inr ⟨_, _, _, rfl⟩) h3, .inr ⟨c', oc, vs, t, rfl, h2 _ hc (.of_code hd hv) ⟨vs, hd⟩, hd, hv⟩⟩
theorem TabOk.sub {P : Addr} {pos : Pos} {qual : Str} {news news' : Led} (T : TabOk P pos qual news) (h : ∀ q ∈ news, q ∈ news') : TabOk P pos qual news' := T.mono (fun _ _ => h _) fun q hq _ _ => h q hq

/-- both code tables stand -/
def Tabs (news : Led) : Prop := TabOk 58 (defPos i2dInner) (Str.ofString "_int2digits.<locals>.inner") news ∧ TabOk 65 (defPos d2iInner) (Str.ofString "_digits2int.<locals>.inner") news
/-- what is kept over a call: every object but the tables -/
def Kept (news news' : Led) : Prop := Tabs news' ∧ ∀ p ∈ news, Solid p.2 → p ∈ news'
theorem Kept.trans {a b c : Led} (h1 : Kept a b) (h2 : Kept b c) : Kept a c := ⟨h2.1, fun p hp hs => h2.2 p (h1.2 p hp hs) hs⟩
theorem Kept.of_sub {a b : Led} (h : Tabs a) (hs : ∀ p ∈ a, p ∈ b) : Kept a b := ⟨⟨h.1.sub hs, h.2.sub hs⟩, fun p hp _ => hs p hp⟩
theorem Tabs.sub {a b : Led} (h : Tabs a) (hs : ∀ p ∈ a, p ∈ b) : Tabs b := ⟨h.1.sub hs, h.2.sub hs⟩

section
variable {M : Model} {A : Around} {E : Value → Shared → Prop} {s : Shared} {h₀ : Heap} {L a c P : Addr} {m mg mb : Str → Option Value} {cn : Str} {cs : Scope} {ccd : Value} {cl : List (Str × Addr)} {news pre : Led}
  {p : Program} {loose : List Str} {mean : ExcName → Option Value} {name qual : Str} {params : Arguments} {body : List Stmt} {scope : Scope} {pos : Pos} {firstLine : Nat} {clos : List (Str × Addr)}
/-- a nested def, its table new or known -/
theorem nest_any {Q : Value → Shared → Prop} (F : Fr h₀ L s.heap m) (N : News h₀ L s.heap (pre ++ news)) (T : Top p loose mean mg mb h₀) (C : CodeHd h₀ c P) (hcd : ccd = .ref c) (hP : ∀ q ∈ pre, q.1 ≠ P) (ht : TabOk P pos qual news)
    (hcl : closureFor scope (envX cn cs L a ccd cl) = pure clos)
    (h : ∀ f c' oc vs t ctv doc pm h' tk news', Fr h₀ L h' m → News h₀ L h' ((f, fnMade name qual params body scope clos doc pm c' ctv) :: (pre ++ news')) →
      (P, tabObj #[rawInt pos.line, rawInt pos.col, .ref c']) ∈ news' → (c', oc) ∈ news' → oc.data = .fields vs → vs[1]? = some (.str qual t) → (∀ q ∈ news, q.1 ≠ P → q ∈ news') → (∀ q ∈ pre, q.1 < f) → (∀ q ∈ news', q.1 < f) → (∀ q ∈ news', q.1 ∉ pre.map (·.1)) →
      Q (.ref f) { s with heap := h', toks := tk }) (hnd : ∀ q ∈ news, q.1 ∉ pre.map (·.1)) :
    wpAny M A (makeFunction name qual params (.stmts body) scope (envX cn cs L a ccd cl) [] [] [] pos firstLine) Q E s := by
  obtain ⟨ps, hps, hcase⟩ := ht
  rcases hcase with rfl | ⟨c', oc, vs, t, rfl, hc, hd, hv⟩
  · have hsplit : ∃ rest : Led, (∀ q ∈ rest, q.1 ≠ P) ∧ (∀ q ∈ news, q.1 ≠ P → q ∈ rest) ∧ (∀ q ∈ rest, q ∈ news) :=
      ⟨news.filter (fun q => q.1 ≠ P), fun q hq => by simpa using (List.mem_filter.mp hq).2, fun q hq hne => List.mem_filter.mpr ⟨hq, by simpa using hne⟩, fun q hq => (List.mem_filter.mp hq).1⟩
    obtain ⟨rest, r1, r2, r3⟩ := hsplit
    have N' : News h₀ L s.heap ((P, tabObj #[]) :: (pre ++ rest)) := fun q hq => by
      rcases List.mem_cons.mp hq with rfl | hq
      · exact N _ (List.mem_append_right _ hps)
      · rcases List.mem_append.mp hq with hq | hq
        · exact N _ (List.mem_append_left _ hq)
        · exact N _ (List.mem_append_right _ (r3 _ hq))
    refine nest_K F N' T C hcd (UpdF.head (fun q hq => ?_)) (by exact True.intro) rfl hcl ?_
    · rcases List.mem_append.mp hq with hq | hq
      · exact hP q hq
      · exact r1 q hq
    · intro f c' oc vs t ctv doc h' tk F' N'' hd hv hl hlt
      refine h f c' oc vs t ctv doc ((mg "__name__").getD .none) h' tk ((c', oc) :: (P, tabObj #[rawInt pos.line, rawInt pos.col, .ref c']) :: rest) F' ?_ (.tail _ (.head _)) (.head _) hd hv (fun q hq hne => .tail _ (.tail _ (r2 q hq hne))) (fun q hq => Nat.lt_trans (hl q (.tail _ (List.mem_append_left _ hq))) hlt) ?_ ?_
      · intro q hq
        rcases List.mem_cons.mp hq with rfl | hq
        · exact N'' _ (.head _)
        · rcases List.mem_append.mp hq with hq | hq
          · exact N'' _ (.tail _ (.tail _ (.tail _ (List.mem_append_left _ hq))))
          · rcases List.mem_cons.mp hq with rfl | hq
            · exact N'' _ (.tail _ (.head _))
            · rcases List.mem_cons.mp hq with rfl | hq
              · exact N'' _ (.tail _ (.tail _ (.head _)))
              · exact N'' _ (.tail _ (.tail _ (.tail _ (List.mem_append_right _ hq))))
      · intro q hq
        rcases List.mem_cons.mp hq with rfl | hq
        · exact hlt
        · rcases List.mem_cons.mp hq with rfl | hq
          · exact Nat.lt_trans (hl (P, tabObj #[]) (.head _)) hlt
          · exact Nat.lt_trans (hl q (.tail _ (List.mem_append_right _ hq))) hlt
      · intro q hq hm
        obtain ⟨r, hr, e⟩ := List.mem_map.mp hm
        rcases List.mem_cons.mp hq with rfl | hq
        · exact absurd (hl r (.tail _ (List.mem_append_left _ hr))) (by rw [e]; exact Nat.lt_irrefl _)
        · rcases List.mem_cons.mp hq with rfl | hq
          · exact hP r hr e
          · exact hnd q (r3 q hq) hm
  · refine nestHit_K F N T C hcd (List.mem_append_right _ hps) ?_ (c' := c') ?_ hcl ?_
    · simp [TriplesOk, rawInt]
    · simp [codeAmong, rawInt]
    · intro f ctv doc h' tk F' N' hl
      exact h f c' oc vs t ctv doc _ h' tk news F' N' hps hc hd hv (fun q hq _ => hq) (fun q hq => hl q (List.mem_append_left _ hq)) (fun q hq => hl q (List.mem_append_right _ hq)) hnd
end
end
local macro_rules | `(tactic| k_mem) => `(tactic| first | assumption | exact List.mem_cons_self | (refine List.mem_cons_of_mem _ ?_; k_mem))
section

theorem set_ints {prog : Program} {w : World} {A : Around} {E : Value → Shared → Prop} {s : Shared} {h₀ : Heap} {L D : Addr} {m : Str → Option Value} {rest : Led} {n : Nat} {k x : Int} {t u : Tok} {vs : List Value} {xs : List Int}
    {Q : Unit → Shared → Prop} (F : Fr h₀ L s.heap m) (N : News h₀ L s.heap ((D, listOf vs.toArray n) :: rest)) (hi : IntsAre vs xs) (hne : ∀ p ∈ rest, p.1 ≠ D) (h0 : 0 ≤ k) (h1 : k < xs.length) (hz : xs.length < 1000)
    (h : ∀ h' us, IntsAre us (xs.set k.toNat x) → Fr h₀ L h' m → News h₀ L h' ((D, listOf us.toArray n) :: rest) → Q () { s with heap := h' }) :
    wpAny (model prog w) A (setItem (.ref D) (.int k t) (.int x u)) Q E s := by
  have z := N (D, listOf vs.toArray n) (.head _)
  have hl : vs.length = xs.length := hi.length
  have hs : vs.toArray.size = xs.length := by rw [List.size_toArray]; exact hl
  refine ki_setAt z.1 h0 (by omega) (by omega) (h _ (vs.set k.toNat (.int x u)) (ints_set hi _) (F.change (Heap.SameBut.update ..) z.2.1 z.2.2) (ki_turn (pre := []) _ N (fun _ h => nomatch h) hne ?_ ?_))
  · apply Array.toList_inj.mp
    simp
  · simp

/-- the k lowest digits of x, n bits each -/
def digs (n x k : Nat) : List Int := (List.range k).map fun i => ((x / 2 ^ (n * i) % 2 ^ n : Nat) : Int)
theorem digs_length (n x k : Nat) : (digs n x k).length = k := by simp [digs]
theorem digs_one {n x : Nat} (h : x < 2 ^ n) : digs n x 1 = [(x : Int)] := by
  have e : x / 2 ^ (n * 0) % 2 ^ n = x := by simp [Nat.mod_eq_of_lt h]
  show [((x / 2 ^ (n * 0) % 2 ^ n : Nat) : Int)] = _
  rw [e]
theorem digs_add (n x p q : Nat) : digs n x (p + q) = digs n (x % 2 ^ (n * p)) p ++ digs n (x / 2 ^ (n * p)) q := by
  unfold digs
  rw [List.range_add, List.map_append, List.map_map]
  congr 1
  · apply List.map_congr_left
    intro i hi
    have hi' : i < p := List.mem_range.mp hi
    have e : (x % 2 ^ (n * p)) / 2 ^ (n * i) % 2 ^ n = x / 2 ^ (n * i) % 2 ^ n := by
      apply Nat.eq_of_testBit_eq
      intro j
      simp only [Nat.testBit_mod_two_pow, Nat.testBit_div_two_pow]
      by_cases hj : j < n
      · have : n * i + j < n * p := by
          have h1 : n * (i + 1) ≤ n * p := Nat.mul_le_mul_left _ hi'
          rw [Nat.mul_add] at h1
          omega
        have h2 : j + n * i < n * p := by omega
        simp [hj, h2]
      · simp [hj]
    exact_mod_cast e.symm
  · apply List.map_congr_left
    intro i _
    show _ = _
    simp only [Function.comp]
    rw [Nat.div_div_eq_div_mul, ← Nat.pow_add, Nat.mul_add]

theorem and_high (x k : Nat) : x &&& (x / 2 ^ k * 2 ^ k) = x / 2 ^ k * 2 ^ k := by
  apply Nat.eq_of_testBit_eq
  intro j
  rw [Nat.testBit_and, ← Nat.shiftRight_eq_div_pow, ← Nat.shiftLeft_eq, Nat.testBit_shiftLeft, Nat.testBit_shiftRight]
  by_cases h : j ≥ k
  · have h2 : k + (j - k) = j := by omega
    simp [h, h2]
  · simp [h]
theorem bitXor_low (x k : Nat) : Builtin.bitXor (x : Int) ((x / 2 ^ k * 2 ^ k : Nat) : Int) = ((x % 2 ^ k : Nat) : Int) := by
  rw [bitXor_and]
  have e : Builtin.bitAnd (x : Int) ((x / 2 ^ k * 2 ^ k : Nat) : Int) = ((x / 2 ^ k * 2 ^ k : Nat) : Int) := by
    unfold Builtin.bitAnd
    simp only [Int.natCast_nonneg, decide_true, Int.toNat_natCast]
    rw [and_high]
  rw [e]
  have h := Nat.div_add_mod x (2 ^ k)
  rw [Nat.mul_comm] at h
  omega

section
variable {prog : Program} {w : World} {A : Around} {E : Value → Shared → Prop} {s : Shared} {t u : Tok} {Q : Value → Shared → Prop}
theorem my_shrN {x k : Nat} (h : ∀ tk, Q (.int ((x / 2 ^ k : Nat) : Int) tk) { s with toks := s.toks + 1 }) : wpAny (model prog w) A (binaryOp .RShift (.int (x : Int) t) (.int (k : Int) u)) Q E s :=
  rshift_int (Int.natCast_nonneg _) (by
    have e : (x : Int).fdiv (2 ^ (k : Int).toNat) = ((x / 2 ^ k : Nat) : Int) := by
      have h2 : (0 : Int) ≤ 2 ^ k := by exact_mod_cast Nat.zero_le _
      rw [Int.toNat_natCast, Int.fdiv_eq_ediv_of_nonneg _ h2]
      push_cast
      rfl
    rw [e]; exact h _)
theorem my_shlN {x k : Nat} (hx : x < 2 ^ 60) (hk : k ≤ 1000) (h : ∀ tk, Q (.int ((x * 2 ^ k : Nat) : Int) tk) { s with toks := s.toks + 1 }) : wpAny (model prog w) A (binaryOp .LShift (.int (x : Int) t) (.int (k : Int) u)) Q E s :=
  lshift_int_small (Int.natCast_nonneg _) (by omega) (by rw [Int.natAbs_natCast]; omega) (by
    have e : (x : Int) * 2 ^ (k : Int).toNat = ((x * 2 ^ k : Nat) : Int) := by
      rw [Int.toNat_natCast]; push_cast; rfl
    rw [e]; exact h _)
theorem my_xor {x y : Int} (h : ∀ tk, Q (.int (Builtin.bitXor x y) tk) { s with toks := s.toks + 1 }) : wpAny (model prog w) A (binaryOp .BitXor (.int x t) (.int y u)) Q E s := xor_int (h _)
end


theorem digs_join {n x l mid r : Nat} {ds : List Int} (h1 : l ≤ mid) (h2 : mid ≤ r) (h3 : r ≤ ds.length) :
    (ds.take l ++ digs n (x % 2 ^ (n * (mid - l))) (mid - l) ++ ds.drop mid).take mid ++ digs n (x / 2 ^ (n * (mid - l))) (r - mid) ++ (ds.take l ++ digs n (x % 2 ^ (n * (mid - l))) (mid - l) ++ ds.drop mid).drop r = ds.take l ++ digs n x (r - l) ++ ds.drop r := by
  have hlen : (ds.take l ++ digs n (x % 2 ^ (n * (mid - l))) (mid - l)).length = mid := by
    rw [List.length_append, List.length_take, digs_length]; omega
  rw [List.take_append_of_le_length (by omega), List.take_of_length_le (by omega), List.drop_append, List.drop_eq_nil_of_le (by omega), List.nil_append, hlen, List.drop_drop]
  rw [show r - l = (mid - l) + (r - mid) from by omega, digs_add, show mid + (r - mid) = r from by omega]
  simp [List.append_assoc]

theorem mid_fact {l mid r k : Nat} (h1 : l < mid) (h2 : mid < r) (hk : r - l = k) : mid - l < k ∧ r - mid < k ∧ mid - l + (r - mid) = r - l := by omega
theorem mid_of {l r : Nat} {v : Int} (hlr : l < r) (hv : v = (l : Int) + 1) (hne : v ≠ (r : Int)) : l < (l + r) / 2 ∧ (l + r) / 2 < r := by omega
theorem mid_cast (l r : Nat) : ((l : Int) + (r : Int)) / 2 = (((l + r) / 2 : Nat) : Int) := by omega
theorem mid_len {l mid r n : Nat} (h1 : l < mid) (h2 : mid < r) (h3 : r ≤ n) : min l n + (mid - l) + (n - mid) = n := by omega
theorem mid_small {l mid r n : Nat} (h2 : mid < r) (h3 : r ≤ n) (h4 : n < 100) : mid - l ≤ 100 := by omega
theorem sub_cast {l mid n : Nat} (h : l < mid) : ((mid : Int) - (l : Int)) * (n : Int) = ((n * (mid - l) : Nat) : Int) := by
  rw [Nat.mul_comm]; push_cast; rw [Int.ofNat_sub (Nat.le_of_lt h)]
theorem room_in {dp a k : Nat} (h : dp + (k + 2) < recursionLimit) (ha : a < k) : dp + 1 + (a + 2) < recursionLimit := by omega
theorem units_in {un a k : Nat} (h : un + (10 * k + 10) < cLine) (ha : a < k) : un + 3 + (10 * a + 10) < cLine := by omega
theorem nat60 {n : Nat} (h : n ≤ 8) : (n : Int).natAbs < 2 ^ 60 := by omega

theorem i2d_inner (w : World) (f c' cD cI cN D : Addr) (doc pm ctv : Value) (oc oD oI oN : Obj) (cvs : Array Value) (ct tn : Tok) (n n0 : Nat) (rest : Led)
    (hf : (f, fnMade (Str.ofString "inner") (Str.ofString "_int2digits.<locals>.inner") (defArgs i2dInner) (defBody i2dInner) (defScope i2dInner) [(Str.ofString "n", cN), (Str.ofString "inner", cI), (Str.ofString "a_digits", cD)] doc pm c' ctv) ∈ rest)
    (hc : (c', oc) ∈ rest) (hcd : oc.data = .fields cvs) (hcv : cvs[1]? = some (.str (Str.ofString "_int2digits.<locals>.inner") ct))
    (hD : (cD, oD) ∈ rest) (hDd : oD.data = .cell (some (.ref D))) (hI : (cI, oI) ∈ rest) (hId : oI.data = .cell (some (.ref f))) (hN : (cN, oN) ∈ rest) (hNd : oN.data = .cell (some (.int n tn))) (hne : ∀ p ∈ rest, p.1 ≠ D) (hn : 1 ≤ n) (hn2 : n ≤ 8) :
    ∀ (k x l r : Nat) (tx tl tr : Tok) (us : List Value) (ds : List Int), r - l = k → l < r → r ≤ ds.length → ds.length < 100 → x < 2 ^ (n * (r - l)) → x < 2 ^ 40 → IntsAre us ds →
      Spec w f (k + 2) (10 * k + 10) [.int x tx, .int l tl, .int r tr] (fun news => news = (D, listOf us.toArray n0) :: rest) (fun _ res news' => res = .none ∧ ∃ us', IntsAre us' (ds.take l ++ digs n x (r - l) ++ ds.drop r) ∧ news' = (D, listOf us'.toArray n0) :: rest) := by
  intro k
  induction k using Nat.strongRecOn with
  | ind k ih =>
  intro x l r tx tl tr us ds hk hlr hr hlen hx hx2 hi
  unfold Spec
  k_fill
  intro p loose mean mg mb dp un gd cn cs a ccd cl outer A₀ base h₀ L m news s Q E B F X N T hk' hd hu hpre hret
  subst hpre
  have CH := codeHd_of_K (c := 62) (P := 58) X (by kernel_rfl)
  refine wpAny_call ?_
  k_dflt (refine' code_nest ?k1 ?k2 ?k3 ?k4 ?k5 ?kA ?kF ?kK ?k6 ?k7 ?k8 ?k9 ?kB ?_ ?c2 ?c3 ?c4 ?c5; (case kA => exact rfl); (case kF => exact rfl); (case kK => assumption); (case k1 => k_asm); (case k2 => k_asm); (case k3 => k_asm); (case k4 => k_asm); (case k5 => k_asm); (case k6 => exact .tail _ hf); (case k7 => exact codeRec_news (by k_asm) (.tail _ hc) hcd hcv); (case k8 => ktr_room); (case k9 => exact BindsTo.of_eq rfl); (case c5 => decide); (case kB => exact locs rfl); (case c2 => exact rfl); (case c3 => exact rfl); (case c4 => exact rfl); k_whole)
  intro g' L' h' FG' F' N' B' X' T'
  conv in (defBody _) => whnf
  conv in (occs := *) (defScope _) => all_goals whnf
  have hn60 := nat60 hn2
  (try k_fold)
  replace F' : Fr g' L' h' (fun y => List.lookup y [(Str.ofString "R", .int r tr), (Str.ofString "L", .int l tl), (Str.ofString "x", .int x tx)]) := F'
  repeat' (first | (k_unfold; (try dsimp only); repeat (first | clear ek | clear qk)) | ((fail_if_success (with_reducible show wpAny _ _ (storeName _ (Str.ofString "shift") _) _ _ _)); (fail_if_success (with_reducible show wpAny _ _ (binaryOp Operator.LShift _ _) _ _ _)); (fail_if_success (with_reducible show wpAny _ _ (binaryOp Operator.BitXor _ _) _ _ _)); (fail_if_success (with_reducible show wpAny _ _ (call (Value.ref _) _) _ _ _)); (fail_if_success (with_reducible show wpAny _ _ (exec (Stmt.For _ _ _ _ _) _) _ _ _)); first | ((with_reducible show wpAny _ _ (exec _ _) _ _ _); k_fold) | (with_reducible (show wpAny _ _ (binaryOp Operator.Add (Value.int _ _) (Value.int _ _)) _ _ _; k_here; (refine my_add ?_); intro _ _ _)) | (with_reducible (show wpAny _ _ (binaryOp Operator.Mult (Value.int _ _) (Value.int _ _)) _ _ _; k_here; (refine my_mul (by first | (left; decide) | (right; decide) | (left; assumption) | (right; assumption) | omega) ?_); intro _ _ _)) | (with_reducible (show wpAny _ _ (binaryOp Operator.RShift (Value.int _ _) (Value.int _ _)) _ _ _; k_here; first | ((refine my_rshift1 ?_); intro _ _ _) | ((refine my_shrN ?_); intro _))) | (with_reducible (show wpAny _ _ (binaryOp Operator.Sub (Value.int _ _) (Value.int _ _)) _ _ _; k_here; (refine my_sub ?_); intro _ _ _)) | (with_reducible (show wpAny _ _ (eval (PySem.Expr.Name _ _) _) _ _ _; k_here; k_dflt (first | (refine' nameX_F ?oN ?oc ?om ?od ?_ ?oa ?ob; (case oa => rfl); (case ob => rfl); (case oN => k_asm); (case oc => rfl); (case om => k_mem); (case od => k_asm); k_whole) | (refine' nameX_C ?oN ?oc ?om ?od ?_ ?oa ?ob; (case oa => rfl); (case ob => rfl); (case oN => k_asm); (case oc => rfl); (case om => k_mem); (case od => k_asm); k_whole)))) | (with_reducible (show wpAny _ _ (setItem (Value.ref _) (Value.int _ _) _) _ _ _; k_here; k_dflt (refine' set_ints ?ok1 ?ok2 ?ok3 ?ok4 ?ok5 ?ok6 ?ok7 ?_; (case ok1 => k_asm); (case ok2 => k_asm); (case ok3 => assumption); (case ok4 => assumption); (case ok5 => omega); (case ok6 => omega); (case ok7 => omega); k_whole); intro _ _ hz; (try simp only [Int.toNat_natCast] at hz); revert hz; intro _ _ _; (try k_sweep))) | walk1 | (dsimp only; walk1)))
  · rename _ = _ + _ => hv
    rename _ = (r : Int) => hv2
    have hrl : r = l + 1 := by omega
    subst hrl
    refine hret _ _ _ _ (by assumption) (by assumption) ⟨rfl, _, ?_, rfl⟩
    have e : ds.take l ++ digs n x (l + 1 - l) ++ ds.drop (l + 1) = ds.set l (x : Int) := by
      rw [show l + 1 - l = 1 from by omega, digs_one (by simpa using hx), List.set_eq_take_append_cons_drop, if_pos (by omega)]
      simp
    rw [e]
    assumption
  · rename _ = _ * _ => hv5
    rename _ = _ - _ => hv4
    rename _ = _ / _ => hv3
    rename _ = (l : Int) + (r : Int) => hv2
    rename _ = (l : Int) + 1 => hv1
    rename _ ≠ (r : Int) => hner
    obtain ⟨hmid1, hmid2⟩ := mid_of hlr hv1 hner
    generalize hmid : (l + r) / 2 = mid at hmid1 hmid2
    rw [hv2, mid_cast, hmid] at hv3
    subst hv3
    rw [hv4, sub_cast hmid1] at hv5
    subst hv5
    have hmf := mid_fact hmid1 hmid2 hk
    have hsh : n * (mid - l) ≤ 1000 := Nat.le_trans (Nat.mul_le_mul hn2 (mid_small hmid2 hr hlen)) (by decide)
    (first | (with_reducible (show wpAny _ _ (binaryOp Operator.Add (Value.int _ _) (Value.int _ _)) _ _ _; k_here; (refine my_add ?_); intro _ _ _)) | (with_reducible (show wpAny _ _ (binaryOp Operator.Mult (Value.int _ _) (Value.int _ _)) _ _ _; k_here; (refine my_mul (by first | (left; decide) | (right; decide) | (left; assumption) | (right; assumption) | omega) ?_); intro _ _ _)) | (with_reducible (show wpAny _ _ (binaryOp Operator.RShift (Value.int _ _) (Value.int _ _)) _ _ _; k_here; first | ((refine my_rshift1 ?_); intro _ _ _) | ((refine my_shrN ?_); intro _))) | (with_reducible (show wpAny _ _ (binaryOp Operator.Sub (Value.int _ _) (Value.int _ _)) _ _ _; k_here; (refine my_sub ?_); intro _ _ _)) | (with_reducible (show wpAny _ _ (eval (PySem.Expr.Name _ _) _) _ _ _; k_here; k_dflt (first | (refine' nameX_F ?oN ?oc ?om ?od ?_ ?oa ?ob; (case oa => rfl); (case ob => rfl); (case oN => k_asm); (case oc => rfl); (case om => k_mem); (case od => k_asm); k_whole) | (refine' nameX_C ?oN ?oc ?om ?od ?_ ?oa ?ob; (case oa => rfl); (case ob => rfl); (case oN => k_asm); (case oc => rfl); (case om => k_mem); (case od => k_asm); k_whole)))) | (with_reducible (show wpAny _ _ (setItem (Value.ref _) (Value.int _ _) _) _ _ _; k_here; k_dflt (refine' set_ints ?ok1 ?ok2 ?ok3 ?ok4 ?ok5 ?ok6 ?ok7 ?_; (case ok1 => k_asm); (case ok2 => k_asm); (case ok3 => assumption); (case ok4 => assumption); (case ok5 => omega); (case ok6 => omega); (case ok7 => omega); k_whole); intro _ _ hz; (try simp only [Int.toNat_natCast] at hz); revert hz; intro _ _ _; (try k_sweep))) | walk1)
    repeat' (first | (k_unfold; (try dsimp only); repeat (first | clear ek | clear qk)) | ((fail_if_success (with_reducible show wpAny _ _ (storeName _ (Str.ofString "shift") _) _ _ _)); (fail_if_success (with_reducible show wpAny _ _ (binaryOp Operator.LShift _ _) _ _ _)); (fail_if_success (with_reducible show wpAny _ _ (binaryOp Operator.BitXor _ _) _ _ _)); (fail_if_success (with_reducible show wpAny _ _ (call (Value.ref _) _) _ _ _)); (fail_if_success (with_reducible show wpAny _ _ (exec (Stmt.For _ _ _ _ _) _) _ _ _)); first | ((with_reducible show wpAny _ _ (exec _ _) _ _ _); k_fold) | (with_reducible (show wpAny _ _ (binaryOp Operator.Add (Value.int _ _) (Value.int _ _)) _ _ _; k_here; (refine my_add ?_); intro _ _ _)) | (with_reducible (show wpAny _ _ (binaryOp Operator.Mult (Value.int _ _) (Value.int _ _)) _ _ _; k_here; (refine my_mul (by first | (left; decide) | (right; decide) | (left; assumption) | (right; assumption) | omega) ?_); intro _ _ _)) | (with_reducible (show wpAny _ _ (binaryOp Operator.RShift (Value.int _ _) (Value.int _ _)) _ _ _; k_here; first | ((refine my_rshift1 ?_); intro _ _ _) | ((refine my_shrN ?_); intro _))) | (with_reducible (show wpAny _ _ (binaryOp Operator.Sub (Value.int _ _) (Value.int _ _)) _ _ _; k_here; (refine my_sub ?_); intro _ _ _)) | (with_reducible (show wpAny _ _ (eval (PySem.Expr.Name _ _) _) _ _ _; k_here; k_dflt (first | (refine' nameX_F ?oN ?oc ?om ?od ?_ ?oa ?ob; (case oa => rfl); (case ob => rfl); (case oN => k_asm); (case oc => rfl); (case om => k_mem); (case od => k_asm); k_whole) | (refine' nameX_C ?oN ?oc ?om ?od ?_ ?oa ?ob; (case oa => rfl); (case ob => rfl); (case oN => k_asm); (case oc => rfl); (case om => k_mem); (case od => k_asm); k_whole)))) | (with_reducible (show wpAny _ _ (setItem (Value.ref _) (Value.int _ _) _) _ _ _; k_here; k_dflt (refine' set_ints ?ok1 ?ok2 ?ok3 ?ok4 ?ok5 ?ok6 ?ok7 ?_; (case ok1 => k_asm); (case ok2 => k_asm); (case ok3 => assumption); (case ok4 => assumption); (case ok5 => omega); (case ok6 => omega); (case ok7 => omega); k_whole); intro _ _ hz; (try simp only [Int.toNat_natCast] at hz); revert hz; intro _ _ _; (try k_sweep))) | walk1 | (dsimp only; walk1)))
    refine my_shlN (Nat.lt_of_le_of_lt (Nat.div_le_self _ _) (Nat.lt_trans hx2 (by decide))) hsh ?_
    intro tq
    refine my_xor ?_
    intro tq2
    rw [bitXor_low]
    repeat' (first | (k_unfold; (try dsimp only); repeat (first | clear ek | clear qk)) | ((fail_if_success (with_reducible show wpAny _ _ (storeName _ (Str.ofString "shift") _) _ _ _)); (fail_if_success (with_reducible show wpAny _ _ (binaryOp Operator.LShift _ _) _ _ _)); (fail_if_success (with_reducible show wpAny _ _ (binaryOp Operator.BitXor _ _) _ _ _)); (fail_if_success (with_reducible show wpAny _ _ (call (Value.ref _) _) _ _ _)); (fail_if_success (with_reducible show wpAny _ _ (exec (Stmt.For _ _ _ _ _) _) _ _ _)); first | ((with_reducible show wpAny _ _ (exec _ _) _ _ _); k_fold) | (with_reducible (show wpAny _ _ (binaryOp Operator.Add (Value.int _ _) (Value.int _ _)) _ _ _; k_here; (refine my_add ?_); intro _ _ _)) | (with_reducible (show wpAny _ _ (binaryOp Operator.Mult (Value.int _ _) (Value.int _ _)) _ _ _; k_here; (refine my_mul (by first | (left; decide) | (right; decide) | (left; assumption) | (right; assumption) | omega) ?_); intro _ _ _)) | (with_reducible (show wpAny _ _ (binaryOp Operator.RShift (Value.int _ _) (Value.int _ _)) _ _ _; k_here; first | ((refine my_rshift1 ?_); intro _ _ _) | ((refine my_shrN ?_); intro _))) | (with_reducible (show wpAny _ _ (binaryOp Operator.Sub (Value.int _ _) (Value.int _ _)) _ _ _; k_here; (refine my_sub ?_); intro _ _ _)) | (with_reducible (show wpAny _ _ (eval (PySem.Expr.Name _ _) _) _ _ _; k_here; k_dflt (first | (refine' nameX_F ?oN ?oc ?om ?od ?_ ?oa ?ob; (case oa => rfl); (case ob => rfl); (case oN => k_asm); (case oc => rfl); (case om => k_mem); (case od => k_asm); k_whole) | (refine' nameX_C ?oN ?oc ?om ?od ?_ ?oa ?ob; (case oa => rfl); (case ob => rfl); (case oN => k_asm); (case oc => rfl); (case om => k_mem); (case od => k_asm); k_whole)))) | (with_reducible (show wpAny _ _ (setItem (Value.ref _) (Value.int _ _) _) _ _ _; k_here; k_dflt (refine' set_ints ?ok1 ?ok2 ?ok3 ?ok4 ?ok5 ?ok6 ?ok7 ?_; (case ok1 => k_asm); (case ok2 => k_asm); (case ok3 => assumption); (case ok4 => assumption); (case ok5 => omega); (case ok6 => omega); (case ok7 => omega); k_whole); intro _ _ hz; (try simp only [Int.toNat_natCast] at hz); revert hz; intro _ _ _; (try k_sweep))) | walk1 | (dsimp only; walk1)))
    have hlow : x % 2 ^ (n * (mid - l)) < 2 ^ (n * (mid - l)) := Nat.mod_lt _ (Nat.two_pow_pos _)
    have hup : x / 2 ^ (n * (mid - l)) < 2 ^ (n * (r - mid)) := by
      apply Nat.div_lt_of_lt_mul
      rw [← Nat.pow_add, ← Nat.mul_add, hmf.2.2]
      exact hx
    refine Spec.use (ih (mid - l) hmf.1 (x % 2 ^ (n * (mid - l))) l mid _ _ _ us ds rfl hmid1 (Nat.le_trans (Nat.le_of_lt hmid2) hr) hlen hlow (Nat.lt_of_le_of_lt (Nat.mod_le _ _) hx2) hi) (by k_asm) (by k_asm) (by k_asm) (by k_asm) (by k_asm) rfl (room_in hd hmf.1) (units_in hu hmf.1) rfl ?_
    rintro r1 news1 h1 tk1 F1 N1 ⟨rfl, us1, hi1, rfl⟩
    repeat' (first | (k_unfold; (try dsimp only); repeat (first | clear ek | clear qk)) | ((fail_if_success (with_reducible show wpAny _ _ (storeName _ (Str.ofString "shift") _) _ _ _)); (fail_if_success (with_reducible show wpAny _ _ (binaryOp Operator.LShift _ _) _ _ _)); (fail_if_success (with_reducible show wpAny _ _ (binaryOp Operator.BitXor _ _) _ _ _)); (fail_if_success (with_reducible show wpAny _ _ (call (Value.ref _) _) _ _ _)); (fail_if_success (with_reducible show wpAny _ _ (exec (Stmt.For _ _ _ _ _) _) _ _ _)); first | ((with_reducible show wpAny _ _ (exec _ _) _ _ _); k_fold) | (with_reducible (show wpAny _ _ (binaryOp Operator.Add (Value.int _ _) (Value.int _ _)) _ _ _; k_here; (refine my_add ?_); intro _ _ _)) | (with_reducible (show wpAny _ _ (binaryOp Operator.Mult (Value.int _ _) (Value.int _ _)) _ _ _; k_here; (refine my_mul (by first | (left; decide) | (right; decide) | (left; assumption) | (right; assumption) | omega) ?_); intro _ _ _)) | (with_reducible (show wpAny _ _ (binaryOp Operator.RShift (Value.int _ _) (Value.int _ _)) _ _ _; k_here; first | ((refine my_rshift1 ?_); intro _ _ _) | ((refine my_shrN ?_); intro _))) | (with_reducible (show wpAny _ _ (binaryOp Operator.Sub (Value.int _ _) (Value.int _ _)) _ _ _; k_here; (refine my_sub ?_); intro _ _ _)) | (with_reducible (show wpAny _ _ (eval (PySem.Expr.Name _ _) _) _ _ _; k_here; k_dflt (first | (refine' nameX_F ?oN ?oc ?om ?od ?_ ?oa ?ob; (case oa => rfl); (case ob => rfl); (case oN => k_asm); (case oc => rfl); (case om => k_mem); (case od => k_asm); k_whole) | (refine' nameX_C ?oN ?oc ?om ?od ?_ ?oa ?ob; (case oa => rfl); (case ob => rfl); (case oN => k_asm); (case oc => rfl); (case om => k_mem); (case od => k_asm); k_whole)))) | (with_reducible (show wpAny _ _ (setItem (Value.ref _) (Value.int _ _) _) _ _ _; k_here; k_dflt (refine' set_ints ?ok1 ?ok2 ?ok3 ?ok4 ?ok5 ?ok6 ?ok7 ?_; (case ok1 => k_asm); (case ok2 => k_asm); (case ok3 => assumption); (case ok4 => assumption); (case ok5 => omega); (case ok6 => omega); (case ok7 => omega); k_whole); intro _ _ hz; (try simp only [Int.toNat_natCast] at hz); revert hz; intro _ _ _; (try k_sweep))) | walk1 | (dsimp only; walk1)))
    have hl1 : (ds.take l ++ digs n (x % 2 ^ (n * (mid - l))) (mid - l) ++ ds.drop mid).length = ds.length := by
      rw [List.length_append, List.length_append, List.length_take, digs_length, List.length_drop]; exact mid_len hmid1 hmid2 hr
    refine Spec.use (ih (r - mid) hmf.2.1 (x / 2 ^ (n * (mid - l))) mid r _ _ _ us1 _ rfl hmid2 (Nat.le_trans hr (Nat.le_of_eq hl1.symm)) (Nat.lt_of_le_of_lt (Nat.le_of_eq hl1) hlen) hup (Nat.lt_of_le_of_lt (Nat.div_le_self _ _) hx2) hi1) (by k_asm) (by k_asm) (by k_asm) (by k_asm) (by k_asm) rfl (room_in hd hmf.2.1) (units_in hu hmf.2.1) rfl ?_
    rintro r2 news2 h2 tk2 F2 N2 ⟨rfl, us2, hi2, rfl⟩
    repeat' (first | (k_unfold; (try dsimp only); repeat (first | clear ek | clear qk)) | ((fail_if_success (with_reducible show wpAny _ _ (storeName _ (Str.ofString "shift") _) _ _ _)); (fail_if_success (with_reducible show wpAny _ _ (binaryOp Operator.LShift _ _) _ _ _)); (fail_if_success (with_reducible show wpAny _ _ (binaryOp Operator.BitXor _ _) _ _ _)); (fail_if_success (with_reducible show wpAny _ _ (call (Value.ref _) _) _ _ _)); (fail_if_success (with_reducible show wpAny _ _ (exec (Stmt.For _ _ _ _ _) _) _ _ _)); first | ((with_reducible show wpAny _ _ (exec _ _) _ _ _); k_fold) | (with_reducible (show wpAny _ _ (binaryOp Operator.Add (Value.int _ _) (Value.int _ _)) _ _ _; k_here; (refine my_add ?_); intro _ _ _)) | (with_reducible (show wpAny _ _ (binaryOp Operator.Mult (Value.int _ _) (Value.int _ _)) _ _ _; k_here; (refine my_mul (by first | (left; decide) | (right; decide) | (left; assumption) | (right; assumption) | omega) ?_); intro _ _ _)) | (with_reducible (show wpAny _ _ (binaryOp Operator.RShift (Value.int _ _) (Value.int _ _)) _ _ _; k_here; first | ((refine my_rshift1 ?_); intro _ _ _) | ((refine my_shrN ?_); intro _))) | (with_reducible (show wpAny _ _ (binaryOp Operator.Sub (Value.int _ _) (Value.int _ _)) _ _ _; k_here; (refine my_sub ?_); intro _ _ _)) | (with_reducible (show wpAny _ _ (eval (PySem.Expr.Name _ _) _) _ _ _; k_here; k_dflt (first | (refine' nameX_F ?oN ?oc ?om ?od ?_ ?oa ?ob; (case oa => rfl); (case ob => rfl); (case oN => k_asm); (case oc => rfl); (case om => k_mem); (case od => k_asm); k_whole) | (refine' nameX_C ?oN ?oc ?om ?od ?_ ?oa ?ob; (case oa => rfl); (case ob => rfl); (case oN => k_asm); (case oc => rfl); (case om => k_mem); (case od => k_asm); k_whole)))) | (with_reducible (show wpAny _ _ (setItem (Value.ref _) (Value.int _ _) _) _ _ _; k_here; k_dflt (refine' set_ints ?ok1 ?ok2 ?ok3 ?ok4 ?ok5 ?ok6 ?ok7 ?_; (case ok1 => k_asm); (case ok2 => k_asm); (case ok3 => assumption); (case ok4 => assumption); (case ok5 => omega); (case ok6 => omega); (case ok7 => omega); k_whole); intro _ _ hz; (try simp only [Int.toNat_natCast] at hz); revert hz; intro _ _ _; (try k_sweep))) | walk1 | (dsimp only; walk1)))
    refine hret _ _ _ _ (by assumption) (by assumption) ⟨rfl, us2, ?_, rfl⟩
    rw [digs_join (Nat.le_of_lt hmid1) (Nat.le_of_lt hmid2) hr] at hi2
    exact hi2
end
local macro_rules | `(tactic| k_all) => `(tactic| assumption)
section

theorem fold_rep (v : Value) : ∀ (k : Nat) (acc : Array Value), List.foldl (fun x1 x2 => x1 ++ x2) acc (List.replicate k #[v]) = acc ++ (List.replicate k v).toArray
  | 0, acc => by simp
  | k + 1, acc => by
    rw [List.replicate_succ, List.foldl_cons, fold_rep v k, List.replicate_succ]
    simp [← Array.toList_inj]
theorem ints_rep (c : Int) (t : Tok) : ∀ k : Nat, IntsAre (List.replicate k (.int c t)) (List.replicate k c)
  | 0 => .nil
  | k + 1 => .cons c t (ints_rep c t k)
theorem mul_one {prog : Program} {w : World} {A : Around} {E : Value → Shared → Prop} {s : Shared} {h₀ : Heap} {L l : Addr} {m : Str → Option Value} {news : Led} {c x : Int} {k e : Nat} {t u : Tok} {Q : Value → Shared → Prop}
    (F : Fr h₀ L s.heap m) (N : News h₀ L s.heap news) (hm : (l, listOf [Value.int c t].toArray e) ∈ news) (hx : x = (k : Int)) (hk : k < 1000)
    (h : ∀ D us h', IntsAre us (List.replicate k c) → Fr h₀ L h' m → News h₀ L h' ((D, listOf us.toArray 0) :: news) → (∀ p ∈ news, p.1 < D) → Q (.ref D) { s with heap := h' }) : wpAny (model prog w) A (binaryOp .Mult (.ref l) (.int x u)) Q E s := by
  subst hx
  refine mul_list F N (N _ hm).1 (by omega) (by omega) (by simp; omega) ?_
  intro h' F' N'
  refine h _ (List.replicate k (.int c t)) h' (ints_rep c t k) F' ?_ fun p hp => Heap.lt_size (N p hp).1
  have e : List.foldl (fun x1 x2 => x1 ++ x2) #[] (List.replicate (if ([Value.int c t].toArray).isEmpty = true then 0 else ((k : Int)).toNat) [Value.int c t].toArray) = (List.replicate k (Value.int c t)).toArray := by
    rw [if_neg (by simp), Int.toNat_natCast]
    have := fold_rep (.int c t) k #[]
    simpa using this
  rw [e] at N'
  exact N'
theorem bits_lt {x : Nat} (h : x < 2 ^ 40) : Builtin.Int.intBits (x : Int) ≤ 40 := by
  unfold Builtin.Int.intBits
  split
  · omega
  · rename_i h0
    have h1 : x ≠ 0 := by simpa using h0
    have := (Nat.log2_lt h1).mpr h
    simp only [Int.natAbs_natCast]
    omega

theorem bits_pow {x : Nat} (h0 : x ≠ 0) : x < 2 ^ Builtin.Int.intBits (x : Int) ∧ 1 ≤ Builtin.Int.intBits (x : Int) := by
  have e : Builtin.Int.intBits (x : Int) = x.log2 + 1 := by
    unfold Builtin.Int.intBits
    rw [if_neg (by simpa using h0), Int.natAbs_natCast]
  rw [e]
  exact ⟨Nat.lt_log2_self, by omega⟩
theorem up_div {b n : Nat} (hn : 1 ≤ n) : b ≤ n * ((b + n - 1) / n) := by
  have h1 := Nat.div_add_mod (b + n - 1) n
  have h2 := Nat.mod_lt (b + n - 1) (show n > 0 by omega)
  omega

theorem int2digits_spec (w : World) (x n : Nat) (t1 t2 : Tok) (hn : 1 ≤ n) (hn2 : n ≤ 8) (hx2 : x < 2 ^ 40) :
    Spec w 63 120 1300 [.int x t1, .int n t2] Tabs (fun news r news' => ∃ D us n0, r = .ref D ∧ (D, listOf (List.toArray us) n0) ∈ news' ∧ IntsAre us (digs n x ((Builtin.Int.intBits x + n - 1) / n)) ∧ Kept news news') := by
  unfold Spec
  k_fill
  intro p loose mean mg mb dp un gd cn cs a ccd cl outer A₀ base h₀ L m news s Q E B F X N T hk hd hu hpre hret
  have CH := codeHd_of_K (c := 62) (P := 58) X (by kernel_rfl)
  refine wpAny_call ?_
  k_dflt (refine' code_defC ?k1 ?k2 ?k3 ?k4 ?k5 ?kA ?kF ?kK ?k6 ?k7 ?k8 ?k9 ?kB ?kD ?_ ?c2 ?c3 ?c4; (case kA => exact rfl); (case kF => exact rfl); (case kK => assumption); (case k1 => k_asm); (case k2 => k_asm); (case k3 => k_asm); (case k4 => k_asm); (case k5 => k_asm); (case k6 => k_is); (case k7 => k_is); (case k8 => ktr_room); (case k9 => exact BindsTo.of_eq rfl); (case kB => exact rfl); (case kD => decide +kernel); (case c2 => exact rfl); (case c3 => exact rfl); (case c4 => exact rfl); k_whole)
  intro g' L' h' tk' cells' FG' F' N' Y' B' X' T' l1
  k_cells Y'
  simp only [List.cons_append, List.nil_append] at N'
  (try k_fold)
  have hne1 : ∀ p ∈ news, p.1 ≠ L' + 1 := fun p hp => Nat.ne_of_lt (Nat.lt_succ_of_lt (l1 p hp))
  have hne2 : ∀ p ∈ news, p.1 ≠ L' + 1 + 1 := fun p hp => Nat.ne_of_lt (Nat.lt_succ_of_lt (Nat.lt_succ_of_lt (l1 p hp)))
  have hne3 : ∀ p ∈ news, p.1 ≠ L' + 1 + 1 + 1 := fun p hp => Nat.ne_of_lt (Nat.lt_succ_of_lt (Nat.lt_succ_of_lt (Nat.lt_succ_of_lt (l1 p hp))))
  have hbits := bits_lt hx2
  repeat' (first | (k_unfold; (try dsimp only); repeat (first | clear ek | clear qk)) | ((fail_if_success (with_reducible show wpAny _ _ (exec (Stmt.While _ _ _ _) _) _ _ _)); (fail_if_success (with_reducible show wpAny _ _ (exec (Stmt.For _ _ _ _ _) _) _ _ _)); (fail_if_success (with_reducible show wpAny _ _ (exec (Stmt.FunctionDef _ _ _ _ _ _ _ _ _ _) _) _ _ _)); (fail_if_success (with_reducible show wpAny _ _ (call (Value.ref _) _) _ _ _)); first | ((first | (with_reducible show wpAny _ _ (exec _ _) _ _ _) | ((with_reducible show wpAny _ _ (eval _ _) _ _ _); (fail_if_success (with_reducible show wpAny _ _ (eval (PySem.Expr.Name _ _) _) _ _ _)); (fail_if_success (with_reducible show wpAny _ _ (eval (PySem.Expr.Constant _ _ _) _) _ _ _)); skip)); k_fold) | (with_reducible (show wpAny _ _ (binaryOp Operator.Add (Value.int _ _) (Value.int _ _)) _ _ _; k_here; (refine my_add ?_); intro _ _ _)) | (with_reducible (show wpAny _ _ (binaryOp Operator.FloorDiv (Value.int _ _) (Value.int _ _)) _ _ _; k_here; (refine my_floordiv (by first | assumption | omega) (by first | assumption | omega) ?_); intro _ _ _)) | (with_reducible (show wpAny _ _ (binaryOp Operator.Sub (Value.int _ _) (Value.int _ _)) _ _ _; k_here; (refine my_sub ?_); intro _ _ _)) | (with_reducible (show wpAny _ _ (call (Value.builtin "len") [Value.ref _]) _ _ _; k_here; k_dflt (refine' my_len_ints ?ok1 ?ok2 ?ok3 ?ok4 ?_; (case ok1 => k_asm); (case ok2 => k_mem); (case ok3 => assumption); (case ok4 => (try simp only [List.length_map, List.length_replicate, digs_length]); omega); k_whole); intro _ _; (try simp only [List.length_map, List.length_replicate, digs_length]))) | (with_reducible (show wpAny _ _ (eval (PySem.Expr.Name _ _) _) _ _ _; k_here; k_dflt (first | (refine' nameX_F ?oN ?oc ?om ?od ?_ ?oa ?ob; (case oa => rfl); (case ob => rfl); (case oN => k_asm); (case oc => rfl); (case om => k_mem); (case od => k_asm); k_whole) | (refine' nameX_C ?oN ?oc ?om ?od ?_ ?oa ?ob; (case oa => rfl); (case ob => rfl); (case oN => k_asm); (case oc => rfl); (case om => k_mem); (case od => k_asm); k_whole)))) | walk1 | (dsimp only; walk1)))
  rename _ = _ / _ => hv3
  rename _ = _ - _ => hv2
  rename _ = _ + _ => hv1
  generalize hkk : (Builtin.Int.intBits (x : Int) + n - 1) / n = k at *
  have hk100 : k < 100 := by
    rw [← hkk]
    exact Nat.lt_of_le_of_lt (Nat.div_le_self _ _) (by omega)
  have hv : _ = (k : Int) := hv3.trans (by
    rw [hv2, hv1, ← hkk, show ((Builtin.Int.intBits (x : Int) : Nat) : Int) + (n : Int) - 1 = ((Builtin.Int.intBits (x : Int) + n - 1 : Nat) : Int) from by omega]
    push_cast; rfl)
  k_dflt (refine' mul_one ?q1 ?q2 ?q3 hv ?q4 ?_; (case q1 => k_asm); (case q2 => k_asm); (case q3 => k_mem); (case q4 => omega))
  intro D us hh hi FD ND lD
  have ND2 := news_sub ND (fun p hp => (List.mem_cons.mp hp).elim (fun e => e ▸ List.mem_cons_self) fun h => List.mem_cons_of_mem _ (List.mem_cons_of_mem _ h))
  clear ND
  have hDn : ∀ p ∈ news, p.1 ≠ D := fun p hp => Nat.ne_of_lt (lD p (by simp [hp]))
  k_lt lD
  repeat' (first | (k_unfold; (try dsimp only); repeat (first | clear ek | clear qk)) | ((fail_if_success (with_reducible show wpAny _ _ (exec (Stmt.While _ _ _ _) _) _ _ _)); (fail_if_success (with_reducible show wpAny _ _ (exec (Stmt.For _ _ _ _ _) _) _ _ _)); (fail_if_success (with_reducible show wpAny _ _ (exec (Stmt.FunctionDef _ _ _ _ _ _ _ _ _ _) _) _ _ _)); (fail_if_success (with_reducible show wpAny _ _ (call (Value.ref _) _) _ _ _)); first | ((first | (with_reducible show wpAny _ _ (exec _ _) _ _ _) | ((with_reducible show wpAny _ _ (eval _ _) _ _ _); (fail_if_success (with_reducible show wpAny _ _ (eval (PySem.Expr.Name _ _) _) _ _ _)); (fail_if_success (with_reducible show wpAny _ _ (eval (PySem.Expr.Constant _ _ _) _) _ _ _)); skip)); k_fold) | (with_reducible (show wpAny _ _ (binaryOp Operator.Add (Value.int _ _) (Value.int _ _)) _ _ _; k_here; (refine my_add ?_); intro _ _ _)) | (with_reducible (show wpAny _ _ (binaryOp Operator.FloorDiv (Value.int _ _) (Value.int _ _)) _ _ _; k_here; (refine my_floordiv (by first | assumption | omega) (by first | assumption | omega) ?_); intro _ _ _)) | (with_reducible (show wpAny _ _ (binaryOp Operator.Sub (Value.int _ _) (Value.int _ _)) _ _ _; k_here; (refine my_sub ?_); intro _ _ _)) | (with_reducible (show wpAny _ _ (call (Value.builtin "len") [Value.ref _]) _ _ _; k_here; k_dflt (refine' my_len_ints ?ok1 ?ok2 ?ok3 ?ok4 ?_; (case ok1 => k_asm); (case ok2 => k_mem); (case ok3 => assumption); (case ok4 => (try simp only [List.length_map, List.length_replicate, digs_length]); omega); k_whole); intro _ _; (try simp only [List.length_map, List.length_replicate, digs_length]))) | (with_reducible (show wpAny _ _ (eval (PySem.Expr.Name _ _) _) _ _ _; k_here; k_dflt (first | (refine' nameX_F ?oN ?oc ?om ?od ?_ ?oa ?ob; (case oa => rfl); (case ob => rfl); (case oN => k_asm); (case oc => rfl); (case om => k_mem); (case od => k_asm); k_whole) | (refine' nameX_C ?oN ?oc ?om ?od ?_ ?oa ?ob; (case oa => rfl); (case ob => rfl); (case oN => k_asm); (case oc => rfl); (case om => k_mem); (case od => k_asm); k_whole)))) | walk1 | (dsimp only; walk1)))
  have CH' := codeHd_of_K (c := 62) (P := 58) X' (by kernel_rfl)
  obtain ⟨o58, _, hm58⟩ := hpre.1.tab
  have h58 := ltN (l1 _ hm58)
  dsimp only at h58
  rename Fr _ _ _ _ => lF
  rename News _ _ _ _ => lN
  k_dflt (refine' nestDef_K ?d0 ?k0 ?a0 ?_; (case d0 => exact rfl); (case k0 => exact rfl); (case a0 => exact rfl))
  refine nest_any (pre := [_, _, _, _]) (news := news) (c := 62) (P := 58) lF lN T' CH' rfl ?hP hpre.1 rfl ?_ ?hnd
  case hP =>
    intro q hq
    simp only [List.mem_cons, List.not_mem_nil, or_false] at hq
    rcases hq with rfl | rfl | rfl | rfl <;> (refine neN ?_; (try dsimp only); omega)
  case hnd =>
    intro q hq hm
    simp only [List.map_cons, List.map_nil, List.mem_cons, List.not_mem_nil, or_false] at hm
    rcases hm with h | h | h | h
    · exact hDn q hq h
    · exact hne3 q hq h
    · exact hne2 q hq h
    · exact hne1 q hq h
  intro f c' oc vs t ctv doc pm h2 tk2 news2 F2 N2 hP2 hc2 hcd2 hcv2 hkeep hlt1 hlt2 hnd2
  simp only [List.cons_append, List.nil_append] at N2
  have hne1' : ∀ p ∈ news2, p.1 ≠ L' + 1 := fun p hp e => hnd2 p hp (by simp [e])
  have hne2' : ∀ p ∈ news2, p.1 ≠ L' + 1 + 1 := fun p hp e => hnd2 p hp (by simp [e])
  have hne3' : ∀ p ∈ news2, p.1 ≠ L' + 1 + 1 + 1 := fun p hp e => hnd2 p hp (by simp [e])
  have hneD : ∀ p ∈ news2, p.1 ≠ D := fun p hp e => hnd2 p hp (by simp [e])
  k_lt hlt1
  repeat' (first | (k_unfold; (try dsimp only); repeat (first | clear ek | clear qk)) | ((fail_if_success (with_reducible show wpAny _ _ (exec (Stmt.While _ _ _ _) _) _ _ _)); (fail_if_success (with_reducible show wpAny _ _ (exec (Stmt.For _ _ _ _ _) _) _ _ _)); (fail_if_success (with_reducible show wpAny _ _ (exec (Stmt.FunctionDef _ _ _ _ _ _ _ _ _ _) _) _ _ _)); (fail_if_success (with_reducible show wpAny _ _ (call (Value.ref _) _) _ _ _)); first | ((first | (with_reducible show wpAny _ _ (exec _ _) _ _ _) | ((with_reducible show wpAny _ _ (eval _ _) _ _ _); (fail_if_success (with_reducible show wpAny _ _ (eval (PySem.Expr.Name _ _) _) _ _ _)); (fail_if_success (with_reducible show wpAny _ _ (eval (PySem.Expr.Constant _ _ _) _) _ _ _)); skip)); k_fold) | (with_reducible (show wpAny _ _ (binaryOp Operator.Add (Value.int _ _) (Value.int _ _)) _ _ _; k_here; (refine my_add ?_); intro _ _ _)) | (with_reducible (show wpAny _ _ (binaryOp Operator.FloorDiv (Value.int _ _) (Value.int _ _)) _ _ _; k_here; (refine my_floordiv (by first | assumption | omega) (by first | assumption | omega) ?_); intro _ _ _)) | (with_reducible (show wpAny _ _ (binaryOp Operator.Sub (Value.int _ _) (Value.int _ _)) _ _ _; k_here; (refine my_sub ?_); intro _ _ _)) | (with_reducible (show wpAny _ _ (call (Value.builtin "len") [Value.ref _]) _ _ _; k_here; k_dflt (refine' my_len_ints ?ok1 ?ok2 ?ok3 ?ok4 ?_; (case ok1 => k_asm); (case ok2 => k_mem); (case ok3 => assumption); (case ok4 => (try simp only [List.length_map, List.length_replicate, digs_length]); omega); k_whole); intro _ _; (try simp only [List.length_map, List.length_replicate, digs_length]))) | (with_reducible (show wpAny _ _ (eval (PySem.Expr.Name _ _) _) _ _ _; k_here; k_dflt (first | (refine' nameX_F ?oN ?oc ?om ?od ?_ ?oa ?ob; (case oa => rfl); (case ob => rfl); (case oN => k_asm); (case oc => rfl); (case om => k_mem); (case od => k_asm); k_whole) | (refine' nameX_C ?oN ?oc ?om ?od ?_ ?oa ?ob; (case oa => rfl); (case ob => rfl); (case oN => k_asm); (case oc => rfl); (case om => k_mem); (case od => k_asm); k_whole)))) | walk1 | (dsimp only; walk1)))
  · rename News _ _ _ _ => lN2
    rename (x : Int) ≠ 0 => hx0
    have hx0' : x ≠ 0 := by omega
    obtain ⟨hb1, hb2⟩ := bits_pow hx0'
    have hkpos : 0 < k := by
      rw [← hkk]
      exact Nat.div_pos (by omega) (by omega)
    have hxk : x < 2 ^ (n * (k - 0)) := by
      rw [← hkk]
      exact Nat.lt_of_lt_of_le hb1 (Nat.pow_le_pow_right (by decide) (up_div hn))
    refine' Spec.use (i2d_inner w f c' (L' + 1 + 1) (L' + 1 + 1 + 1) (L' + 1) D doc pm ctv oc _ _ _ vs t t2 n 0 _ ?hf ?hc hcd2 hcv2 ?hD ?hDd ?hI ?hId ?hN ?hNd ?hne hn hn2 k x 0 k _ _ _ us _ (by omega) hkpos ?_ ?_ hxk hx2 hi) ?z1 ?z2 ?z3 (news_swap lN2) ?z5 rfl ?z6 ?z7 rfl ?_
    case hf => exact List.mem_cons_self
    case hc => k_mem
    case hD => k_mem
    case hI => k_mem
    case hN => k_mem
    case hDd => assumption
    case hId => assumption
    case hNd => assumption
    case z1 => k_asm
    case z2 => k_asm
    case z3 => k_asm
    case z5 => k_asm
    case z6 => ktr_room
    case z7 => ktr_units
    case hne =>
      intro q hq
      simp only [List.mem_cons] at hq
      rcases hq with rfl | rfl | rfl | rfl | hq
      · refine neN ?_; dsimp only; omega
      · refine neN ?_; dsimp only; omega
      · refine neN ?_; dsimp only; omega
      · refine neN ?_; dsimp only; omega
      · exact hneD q hq
    · simp
    · simp; omega
    · rintro r news' h3 tk3 F3 N3 ⟨rfl, us', hi', rfl⟩
      have hi2 : IntsAre us' (digs n x k) := by simpa using hi'
      repeat' (first | (k_unfold; (try dsimp only); repeat (first | clear ek | clear qk)) | ((fail_if_success (with_reducible show wpAny _ _ (exec (Stmt.While _ _ _ _) _) _ _ _)); (fail_if_success (with_reducible show wpAny _ _ (exec (Stmt.For _ _ _ _ _) _) _ _ _)); (fail_if_success (with_reducible show wpAny _ _ (exec (Stmt.FunctionDef _ _ _ _ _ _ _ _ _ _) _) _ _ _)); (fail_if_success (with_reducible show wpAny _ _ (call (Value.ref _) _) _ _ _)); first | ((first | (with_reducible show wpAny _ _ (exec _ _) _ _ _) | ((with_reducible show wpAny _ _ (eval _ _) _ _ _); (fail_if_success (with_reducible show wpAny _ _ (eval (PySem.Expr.Name _ _) _) _ _ _)); (fail_if_success (with_reducible show wpAny _ _ (eval (PySem.Expr.Constant _ _ _) _) _ _ _)); skip)); k_fold) | (with_reducible (show wpAny _ _ (binaryOp Operator.Add (Value.int _ _) (Value.int _ _)) _ _ _; k_here; (refine my_add ?_); intro _ _ _)) | (with_reducible (show wpAny _ _ (binaryOp Operator.FloorDiv (Value.int _ _) (Value.int _ _)) _ _ _; k_here; (refine my_floordiv (by first | assumption | omega) (by first | assumption | omega) ?_); intro _ _ _)) | (with_reducible (show wpAny _ _ (binaryOp Operator.Sub (Value.int _ _) (Value.int _ _)) _ _ _; k_here; (refine my_sub ?_); intro _ _ _)) | (with_reducible (show wpAny _ _ (call (Value.builtin "len") [Value.ref _]) _ _ _; k_here; k_dflt (refine' my_len_ints ?ok1 ?ok2 ?ok3 ?ok4 ?_; (case ok1 => k_asm); (case ok2 => k_mem); (case ok3 => assumption); (case ok4 => (try simp only [List.length_map, List.length_replicate, digs_length]); omega); k_whole); intro _ _; (try simp only [List.length_map, List.length_replicate, digs_length]))) | (with_reducible (show wpAny _ _ (eval (PySem.Expr.Name _ _) _) _ _ _; k_here; k_dflt (first | (refine' nameX_F ?oN ?oc ?om ?od ?_ ?oa ?ob; (case oa => rfl); (case ob => rfl); (case oN => k_asm); (case oc => rfl); (case om => k_mem); (case od => k_asm); k_whole) | (refine' nameX_C ?oN ?oc ?om ?od ?_ ?oa ?ob; (case oa => rfl); (case ob => rfl); (case oN => k_asm); (case oc => rfl); (case om => k_mem); (case od => k_asm); k_whole)))) | walk1 | (dsimp only; walk1)))
      refine hret _ _ _ _ (by assumption) (by assumption) ⟨D, us', 0, rfl, List.mem_cons_self, hi2, ?_⟩
      refine ⟨⟨⟨_, by k_mem, .inr ⟨c', oc, vs, t, rfl, by k_mem, hcd2, hcv2⟩⟩, (TabOk.keep N hpre.2 hpre.1 (by decide) hkeep).sub fun q hq => by k_mem⟩, fun q hq hs => ?_⟩
      have hq2 := hkeep q hq (Solid.ne N hpre.1 hq hs)
      k_mem
  · rename (x : Int) = 0 => hx0
    have hx0' : x = 0 := by omega
    subst hx0'
    have hk0 : k = 0 := by
      rw [← hkk]
      have : Builtin.Int.intBits ((0 : Nat) : Int) = 0 := by decide
      rw [this]
      exact Nat.div_eq_of_lt (by omega)
    subst hk0
    refine hret _ _ _ _ (by assumption) (by assumption) ⟨D, us, 0, rfl, by k_mem, hi, ?_⟩
    refine ⟨⟨⟨_, by k_mem, .inr ⟨c', oc, vs, t, rfl, by k_mem, hcd2, hcv2⟩⟩, (TabOk.keep N hpre.2 hpre.1 (by decide) hkeep).sub fun q hq => by k_mem⟩, fun q hq hs => ?_⟩
    have hq2 := hkeep q hq (Solid.ne N hpre.1 hq hs)
    k_mem
end
section

/-- the number that digits of n bits tell, the lowest first -/
def valD (n : Nat) : List Nat → Nat
  | [] => 0
  | d :: r => d + 2 ^ n * valD n r
theorem valD_append (n : Nat) (xs ys : List Nat) : valD n (xs ++ ys) = valD n xs + 2 ^ (n * xs.length) * valD n ys := by
  induction xs with
  | nil => simp [valD]
  | cons d r ih =>
    simp only [List.cons_append, valD, ih, List.length_cons, Nat.mul_add, Nat.mul_one, Nat.pow_add]
    rw [← Nat.mul_assoc, Nat.mul_comm (2 ^ n) (2 ^ (n * r.length))]
    omega
abbrev castL (ds : List Nat) : List Int := ds.map Int.ofNat

theorem slice_split {l mid r : Nat} {ds : List Nat} (h1 : l ≤ mid) (h2 : mid ≤ r) (h3 : r ≤ ds.length) : (ds.drop l).take (r - l) = (ds.drop l).take (mid - l) ++ (ds.drop mid).take (r - mid) := by
  rw [show r - l = (mid - l) + (r - mid) from by omega, List.take_add, List.drop_drop, show l + (mid - l) = mid from by omega]
theorem val_split {n l mid r : Nat} {ds : List Nat} (h1 : l ≤ mid) (h2 : mid ≤ r) (h3 : r ≤ ds.length) :
    valD n ((ds.drop l).take (r - l)) = valD n ((ds.drop mid).take (r - mid)) * 2 ^ (n * (mid - l)) + valD n ((ds.drop l).take (mid - l)) := by
  rw [slice_split h1 h2 h3, valD_append, List.length_take, List.length_drop, show min (mid - l) (ds.length - l) = mid - l from by omega, Nat.mul_comm (2 ^ _)]
  exact Nat.add_comm _ _


theorem d2i_inner (w : World) (f c' cD cI cN D : Addr) (doc pm ctv : Value) (oc oD oI oN : Obj) (cvs : Array Value) (ct tn : Tok) (n n0 : Nat) (led : Led) (us : List Value) (ds : List Nat)
    (hf : (f, fnMade (Str.ofString "inner") (Str.ofString "_digits2int.<locals>.inner") (defArgs d2iInner) (defBody d2iInner) (defScope d2iInner) [(Str.ofString "n", cN), (Str.ofString "inner", cI), (Str.ofString "digits", cD)] doc pm c' ctv) ∈ led)
    (hc : (c', oc) ∈ led) (hcd : oc.data = .fields cvs) (hcv : cvs[1]? = some (.str (Str.ofString "_digits2int.<locals>.inner") ct))
    (hD : (cD, oD) ∈ led) (hDd : oD.data = .cell (some (.ref D))) (hI : (cI, oI) ∈ led) (hId : oI.data = .cell (some (.ref f))) (hN : (cN, oN) ∈ led) (hNd : oN.data = .cell (some (.int n tn))) (hl : (D, listOf us.toArray n0) ∈ led) (hi : IntsAre us (castL ds)) (hlen : ds.length < 100) (hn : 1 ≤ n) (hn2 : n ≤ 8) :
    ∀ (k l r : Nat) (tl tr : Tok), r - l = k → l < r → r ≤ ds.length → valD n ((ds.drop l).take (r - l)) < 2 ^ 40 →
      Spec w f (k + 2) (10 * k + 10) [.int l tl, .int r tr] (fun news => news = led) (fun _ res news' => (∃ t, res = .int ((valD n ((ds.drop l).take (r - l)) : Nat) : Int) t) ∧ news' = led) := by
  intro k
  induction k using Nat.strongRecOn with
  | ind k ih =>
  intro l r tl tr hk hlr hr hval
  unfold Spec
  k_fill
  intro p loose mean mg mb dp un gd cn cs a ccd cl outer A₀ base h₀ L m news s Q E B F X N T hk' hd hu hpre hret
  subst hpre
  have CH := codeHd_of_K (c := 69) (P := 65) X (by kernel_rfl)
  refine wpAny_call ?_
  k_dflt (refine' code_nest ?k1 ?k2 ?k3 ?k4 ?k5 ?kA ?kF ?kK ?k6 ?k7 ?k8 ?k9 ?kB ?_ ?c2 ?c3 ?c4 ?c5; (case kA => exact rfl); (case kF => exact rfl); (case kK => assumption); (case k1 => k_asm); (case k2 => k_asm); (case k3 => k_asm); (case k4 => k_asm); (case k5 => k_asm); (case k6 => exact hf); (case k7 => exact codeRec_news (by k_asm) hc hcd hcv); (case k8 => ktr_room); (case k9 => exact BindsTo.of_eq rfl); (case c5 => decide); (case kB => exact locs rfl); (case c2 => exact rfl); (case c3 => exact rfl); (case c4 => exact rfl); k_whole)
  intro g' L' h' FG' F' N' B' X' T'
  conv in (defBody _) => whnf
  conv in (occs := *) (defScope _) => all_goals whnf
  have hn60 := nat60 hn2
  (try k_fold)
  replace F' : Fr g' L' h' (fun y => List.lookup y [(Str.ofString "R", .int r tr), (Str.ofString "L", .int l tl)]) := F'
  repeat' (first | (k_unfold; (try dsimp only); repeat (first | clear ek | clear qk)) | ((fail_if_success (with_reducible show wpAny _ _ (storeName _ (Str.ofString "shift") _) _ _ _)); (fail_if_success (with_reducible show wpAny _ _ (binaryOp Operator.LShift _ _) _ _ _)); (fail_if_success (with_reducible show wpAny _ _ (call (Value.ref _) _) _ _ _)); (fail_if_success (with_reducible show wpAny _ _ (exec (Stmt.For _ _ _ _ _) _) _ _ _)); first | ((with_reducible show wpAny _ _ (exec _ _) _ _ _); k_fold) | (with_reducible (show wpAny _ _ (binaryOp Operator.Add (Value.int _ _) (Value.int _ _)) _ _ _; k_here; (refine my_add ?_); intro _ _ _)) | (with_reducible (show wpAny _ _ (binaryOp Operator.Mult (Value.int _ _) (Value.int _ _)) _ _ _; k_here; (refine my_mul (by first | (left; decide) | (right; decide) | (left; assumption) | (right; assumption) | omega) ?_); intro _ _ _)) | (with_reducible (show wpAny _ _ (binaryOp Operator.RShift (Value.int _ _) (Value.int _ _)) _ _ _; k_here; (refine my_rshift1 ?_); intro _ _ _)) | (with_reducible (show wpAny _ _ (binaryOp Operator.Sub (Value.int _ _) (Value.int _ _)) _ _ _; k_here; (refine my_sub ?_); intro _ _ _)) | (with_reducible (show wpAny _ _ (eval (PySem.Expr.Name _ _) _) _ _ _; k_here; k_dflt (first | (refine' nameX_F ?oN ?oc ?om ?od ?_ ?oa ?ob; (case oa => rfl); (case ob => rfl); (case oN => k_asm); (case oc => rfl); (case om => k_mem); (case od => k_asm); k_whole) | (refine' nameX_C ?oN ?oc ?om ?od ?_ ?oa ?ob; (case oa => rfl); (case ob => rfl); (case oN => k_asm); (case oc => rfl); (case om => k_mem); (case od => k_asm); k_whole)))) | (with_reducible (show wpAny _ _ (subscriptTail _ _ (Value.ref _) (Value.int _ _)) _ _ _; k_here; k_dflt (refine' ksa_sub ?ok1 ?ok2 ?ok3 ?ok4 ?ok5 ?ok6 ?_ ?ok7; (case ok1 => k_asm); (case ok2 => k_mem); (case ok3 => assumption); (case ok4 => omega); (case ok5 => (try simp only [List.length_map]); omega); (case ok6 => omega); (case ok7 => with_unfolding_all rfl); k_whole); intro _; (try simp only [Int.toNat_natCast]))) | walk1 | (dsimp only; walk1)))
  · rename _ = (r : Int) => hv2
    rename _ = _ + _ => hv
    have hrl : r = l + 1 := by omega
    subst hrl
    have hlt : l < ds.length := by omega
    have e1 : (castL ds).getD l 0 = ((ds[l] : Nat) : Int) := by simp [castL, hlt]
    have e2 : (ds.drop l).take (l + 1 - l) = [ds[l]] := by
      rw [show l + 1 - l = 1 from by omega, List.drop_eq_getElem_cons hlt]; rfl
    have e3 : (castL ds).getD l 0 = ((valD n ((ds.drop l).take (l + 1 - l)) : Nat) : Int) := by
      rw [e1, e2]
      simp [valD]
    rw [e3]
    exact hret _ _ _ _ (by assumption) (by assumption) ⟨⟨_, rfl⟩, rfl⟩
  · rename _ = _ * _ => hv5
    rename _ = _ - _ => hv4
    rename _ = _ / _ => hv3
    rename _ = (l : Int) + (r : Int) => hv2
    rename _ = (l : Int) + 1 => hv1
    rename _ ≠ (r : Int) => hner
    obtain ⟨hmid1, hmid2⟩ := mid_of hlr hv1 hner
    generalize hmid : (l + r) / 2 = mid at hmid1 hmid2
    rw [hv2, mid_cast, hmid] at hv3
    subst hv3
    rw [hv4, sub_cast hmid1] at hv5
    subst hv5
    have hmf := mid_fact hmid1 hmid2 hk
    have hsh : n * (mid - l) ≤ 1000 := Nat.le_trans (Nat.mul_le_mul hn2 (mid_small hmid2 hr hlen)) (by decide)
    have hsplit := val_split (n := n) (Nat.le_of_lt hmid1) (Nat.le_of_lt hmid2) hr
    have hup : valD n ((ds.drop mid).take (r - mid)) < 2 ^ 40 := by
      have h1 : valD n ((ds.drop mid).take (r - mid)) * 1 ≤ valD n ((ds.drop mid).take (r - mid)) * 2 ^ (n * (mid - l)) := Nat.mul_le_mul_left _ (Nat.two_pow_pos _)
      rw [Nat.mul_one] at h1
      exact Nat.lt_of_le_of_lt (Nat.le_trans h1 (Nat.le_trans (Nat.le_add_right _ _) (Nat.le_of_eq hsplit.symm))) hval
    have hlo : valD n ((ds.drop l).take (mid - l)) < 2 ^ 40 := Nat.lt_of_le_of_lt (Nat.le_trans (Nat.le_add_left _ _) (Nat.le_of_eq hsplit.symm)) hval
    (first | (with_reducible (show wpAny _ _ (binaryOp Operator.Add (Value.int _ _) (Value.int _ _)) _ _ _; k_here; (refine my_add ?_); intro _ _ _)) | (with_reducible (show wpAny _ _ (binaryOp Operator.Mult (Value.int _ _) (Value.int _ _)) _ _ _; k_here; (refine my_mul (by first | (left; decide) | (right; decide) | (left; assumption) | (right; assumption) | omega) ?_); intro _ _ _)) | (with_reducible (show wpAny _ _ (binaryOp Operator.RShift (Value.int _ _) (Value.int _ _)) _ _ _; k_here; (refine my_rshift1 ?_); intro _ _ _)) | (with_reducible (show wpAny _ _ (binaryOp Operator.Sub (Value.int _ _) (Value.int _ _)) _ _ _; k_here; (refine my_sub ?_); intro _ _ _)) | (with_reducible (show wpAny _ _ (eval (PySem.Expr.Name _ _) _) _ _ _; k_here; k_dflt (first | (refine' nameX_F ?oN ?oc ?om ?od ?_ ?oa ?ob; (case oa => rfl); (case ob => rfl); (case oN => k_asm); (case oc => rfl); (case om => k_mem); (case od => k_asm); k_whole) | (refine' nameX_C ?oN ?oc ?om ?od ?_ ?oa ?ob; (case oa => rfl); (case ob => rfl); (case oN => k_asm); (case oc => rfl); (case om => k_mem); (case od => k_asm); k_whole)))) | (with_reducible (show wpAny _ _ (subscriptTail _ _ (Value.ref _) (Value.int _ _)) _ _ _; k_here; k_dflt (refine' ksa_sub ?ok1 ?ok2 ?ok3 ?ok4 ?ok5 ?ok6 ?_ ?ok7; (case ok1 => k_asm); (case ok2 => k_mem); (case ok3 => assumption); (case ok4 => omega); (case ok5 => (try simp only [List.length_map]); omega); (case ok6 => omega); (case ok7 => with_unfolding_all rfl); k_whole); intro _; (try simp only [Int.toNat_natCast]))) | walk1)
    repeat' (first | (k_unfold; (try dsimp only); repeat (first | clear ek | clear qk)) | ((fail_if_success (with_reducible show wpAny _ _ (storeName _ (Str.ofString "shift") _) _ _ _)); (fail_if_success (with_reducible show wpAny _ _ (binaryOp Operator.LShift _ _) _ _ _)); (fail_if_success (with_reducible show wpAny _ _ (call (Value.ref _) _) _ _ _)); (fail_if_success (with_reducible show wpAny _ _ (exec (Stmt.For _ _ _ _ _) _) _ _ _)); first | ((with_reducible show wpAny _ _ (exec _ _) _ _ _); k_fold) | (with_reducible (show wpAny _ _ (binaryOp Operator.Add (Value.int _ _) (Value.int _ _)) _ _ _; k_here; (refine my_add ?_); intro _ _ _)) | (with_reducible (show wpAny _ _ (binaryOp Operator.Mult (Value.int _ _) (Value.int _ _)) _ _ _; k_here; (refine my_mul (by first | (left; decide) | (right; decide) | (left; assumption) | (right; assumption) | omega) ?_); intro _ _ _)) | (with_reducible (show wpAny _ _ (binaryOp Operator.RShift (Value.int _ _) (Value.int _ _)) _ _ _; k_here; (refine my_rshift1 ?_); intro _ _ _)) | (with_reducible (show wpAny _ _ (binaryOp Operator.Sub (Value.int _ _) (Value.int _ _)) _ _ _; k_here; (refine my_sub ?_); intro _ _ _)) | (with_reducible (show wpAny _ _ (eval (PySem.Expr.Name _ _) _) _ _ _; k_here; k_dflt (first | (refine' nameX_F ?oN ?oc ?om ?od ?_ ?oa ?ob; (case oa => rfl); (case ob => rfl); (case oN => k_asm); (case oc => rfl); (case om => k_mem); (case od => k_asm); k_whole) | (refine' nameX_C ?oN ?oc ?om ?od ?_ ?oa ?ob; (case oa => rfl); (case ob => rfl); (case oN => k_asm); (case oc => rfl); (case om => k_mem); (case od => k_asm); k_whole)))) | (with_reducible (show wpAny _ _ (subscriptTail _ _ (Value.ref _) (Value.int _ _)) _ _ _; k_here; k_dflt (refine' ksa_sub ?ok1 ?ok2 ?ok3 ?ok4 ?ok5 ?ok6 ?_ ?ok7; (case ok1 => k_asm); (case ok2 => k_mem); (case ok3 => assumption); (case ok4 => omega); (case ok5 => (try simp only [List.length_map]); omega); (case ok6 => omega); (case ok7 => with_unfolding_all rfl); k_whole); intro _; (try simp only [Int.toNat_natCast]))) | walk1 | (dsimp only; walk1)))
    refine Spec.use (ih (r - mid) hmf.2.1 mid r _ _ rfl hmid2 hr hup) (by k_asm) (by k_asm) (by k_asm) (by k_asm) (by k_asm) rfl (room_in hd hmf.2.1) (units_in hu hmf.2.1) rfl ?_
    rintro r1 news1 h1 tk1 F1 N1 ⟨⟨tq1, rfl⟩, rfl⟩
    repeat' (first | (k_unfold; (try dsimp only); repeat (first | clear ek | clear qk)) | ((fail_if_success (with_reducible show wpAny _ _ (storeName _ (Str.ofString "shift") _) _ _ _)); (fail_if_success (with_reducible show wpAny _ _ (binaryOp Operator.LShift _ _) _ _ _)); (fail_if_success (with_reducible show wpAny _ _ (call (Value.ref _) _) _ _ _)); (fail_if_success (with_reducible show wpAny _ _ (exec (Stmt.For _ _ _ _ _) _) _ _ _)); first | ((with_reducible show wpAny _ _ (exec _ _) _ _ _); k_fold) | (with_reducible (show wpAny _ _ (binaryOp Operator.Add (Value.int _ _) (Value.int _ _)) _ _ _; k_here; (refine my_add ?_); intro _ _ _)) | (with_reducible (show wpAny _ _ (binaryOp Operator.Mult (Value.int _ _) (Value.int _ _)) _ _ _; k_here; (refine my_mul (by first | (left; decide) | (right; decide) | (left; assumption) | (right; assumption) | omega) ?_); intro _ _ _)) | (with_reducible (show wpAny _ _ (binaryOp Operator.RShift (Value.int _ _) (Value.int _ _)) _ _ _; k_here; (refine my_rshift1 ?_); intro _ _ _)) | (with_reducible (show wpAny _ _ (binaryOp Operator.Sub (Value.int _ _) (Value.int _ _)) _ _ _; k_here; (refine my_sub ?_); intro _ _ _)) | (with_reducible (show wpAny _ _ (eval (PySem.Expr.Name _ _) _) _ _ _; k_here; k_dflt (first | (refine' nameX_F ?oN ?oc ?om ?od ?_ ?oa ?ob; (case oa => rfl); (case ob => rfl); (case oN => k_asm); (case oc => rfl); (case om => k_mem); (case od => k_asm); k_whole) | (refine' nameX_C ?oN ?oc ?om ?od ?_ ?oa ?ob; (case oa => rfl); (case ob => rfl); (case oN => k_asm); (case oc => rfl); (case om => k_mem); (case od => k_asm); k_whole)))) | (with_reducible (show wpAny _ _ (subscriptTail _ _ (Value.ref _) (Value.int _ _)) _ _ _; k_here; k_dflt (refine' ksa_sub ?ok1 ?ok2 ?ok3 ?ok4 ?ok5 ?ok6 ?_ ?ok7; (case ok1 => k_asm); (case ok2 => k_mem); (case ok3 => assumption); (case ok4 => omega); (case ok5 => (try simp only [List.length_map]); omega); (case ok6 => omega); (case ok7 => with_unfolding_all rfl); k_whole); intro _; (try simp only [Int.toNat_natCast]))) | walk1 | (dsimp only; walk1)))
    refine my_shlN (Nat.lt_trans hup (by decide)) hsh ?_
    intro tq
    repeat' (first | (k_unfold; (try dsimp only); repeat (first | clear ek | clear qk)) | ((fail_if_success (with_reducible show wpAny _ _ (storeName _ (Str.ofString "shift") _) _ _ _)); (fail_if_success (with_reducible show wpAny _ _ (binaryOp Operator.LShift _ _) _ _ _)); (fail_if_success (with_reducible show wpAny _ _ (call (Value.ref _) _) _ _ _)); (fail_if_success (with_reducible show wpAny _ _ (exec (Stmt.For _ _ _ _ _) _) _ _ _)); first | ((with_reducible show wpAny _ _ (exec _ _) _ _ _); k_fold) | (with_reducible (show wpAny _ _ (binaryOp Operator.Add (Value.int _ _) (Value.int _ _)) _ _ _; k_here; (refine my_add ?_); intro _ _ _)) | (with_reducible (show wpAny _ _ (binaryOp Operator.Mult (Value.int _ _) (Value.int _ _)) _ _ _; k_here; (refine my_mul (by first | (left; decide) | (right; decide) | (left; assumption) | (right; assumption) | omega) ?_); intro _ _ _)) | (with_reducible (show wpAny _ _ (binaryOp Operator.RShift (Value.int _ _) (Value.int _ _)) _ _ _; k_here; (refine my_rshift1 ?_); intro _ _ _)) | (with_reducible (show wpAny _ _ (binaryOp Operator.Sub (Value.int _ _) (Value.int _ _)) _ _ _; k_here; (refine my_sub ?_); intro _ _ _)) | (with_reducible (show wpAny _ _ (eval (PySem.Expr.Name _ _) _) _ _ _; k_here; k_dflt (first | (refine' nameX_F ?oN ?oc ?om ?od ?_ ?oa ?ob; (case oa => rfl); (case ob => rfl); (case oN => k_asm); (case oc => rfl); (case om => k_mem); (case od => k_asm); k_whole) | (refine' nameX_C ?oN ?oc ?om ?od ?_ ?oa ?ob; (case oa => rfl); (case ob => rfl); (case oN => k_asm); (case oc => rfl); (case om => k_mem); (case od => k_asm); k_whole)))) | (with_reducible (show wpAny _ _ (subscriptTail _ _ (Value.ref _) (Value.int _ _)) _ _ _; k_here; k_dflt (refine' ksa_sub ?ok1 ?ok2 ?ok3 ?ok4 ?ok5 ?ok6 ?_ ?ok7; (case ok1 => k_asm); (case ok2 => k_mem); (case ok3 => assumption); (case ok4 => omega); (case ok5 => (try simp only [List.length_map]); omega); (case ok6 => omega); (case ok7 => with_unfolding_all rfl); k_whole); intro _; (try simp only [Int.toNat_natCast]))) | walk1 | (dsimp only; walk1)))
    refine Spec.use (ih (mid - l) hmf.1 l mid _ _ rfl hmid1 (Nat.le_trans (Nat.le_of_lt hmid2) hr) hlo) (by k_asm) (by k_asm) (by k_asm) (by k_asm) (by k_asm) rfl (room_in hd hmf.1) (units_in hu hmf.1) rfl ?_
    rintro r2 news2 h2 tk2 F2 N2 ⟨⟨tq2, rfl⟩, rfl⟩
    repeat' (first | (k_unfold; (try dsimp only); repeat (first | clear ek | clear qk)) | ((fail_if_success (with_reducible show wpAny _ _ (storeName _ (Str.ofString "shift") _) _ _ _)); (fail_if_success (with_reducible show wpAny _ _ (binaryOp Operator.LShift _ _) _ _ _)); (fail_if_success (with_reducible show wpAny _ _ (call (Value.ref _) _) _ _ _)); (fail_if_success (with_reducible show wpAny _ _ (exec (Stmt.For _ _ _ _ _) _) _ _ _)); first | ((with_reducible show wpAny _ _ (exec _ _) _ _ _); k_fold) | (with_reducible (show wpAny _ _ (binaryOp Operator.Add (Value.int _ _) (Value.int _ _)) _ _ _; k_here; (refine my_add ?_); intro _ _ _)) | (with_reducible (show wpAny _ _ (binaryOp Operator.Mult (Value.int _ _) (Value.int _ _)) _ _ _; k_here; (refine my_mul (by first | (left; decide) | (right; decide) | (left; assumption) | (right; assumption) | omega) ?_); intro _ _ _)) | (with_reducible (show wpAny _ _ (binaryOp Operator.RShift (Value.int _ _) (Value.int _ _)) _ _ _; k_here; (refine my_rshift1 ?_); intro _ _ _)) | (with_reducible (show wpAny _ _ (binaryOp Operator.Sub (Value.int _ _) (Value.int _ _)) _ _ _; k_here; (refine my_sub ?_); intro _ _ _)) | (with_reducible (show wpAny _ _ (eval (PySem.Expr.Name _ _) _) _ _ _; k_here; k_dflt (first | (refine' nameX_F ?oN ?oc ?om ?od ?_ ?oa ?ob; (case oa => rfl); (case ob => rfl); (case oN => k_asm); (case oc => rfl); (case om => k_mem); (case od => k_asm); k_whole) | (refine' nameX_C ?oN ?oc ?om ?od ?_ ?oa ?ob; (case oa => rfl); (case ob => rfl); (case oN => k_asm); (case oc => rfl); (case om => k_mem); (case od => k_asm); k_whole)))) | (with_reducible (show wpAny _ _ (subscriptTail _ _ (Value.ref _) (Value.int _ _)) _ _ _; k_here; k_dflt (refine' ksa_sub ?ok1 ?ok2 ?ok3 ?ok4 ?ok5 ?ok6 ?_ ?ok7; (case ok1 => k_asm); (case ok2 => k_mem); (case ok3 => assumption); (case ok4 => omega); (case ok5 => (try simp only [List.length_map]); omega); (case ok6 => omega); (case ok7 => with_unfolding_all rfl); k_whole); intro _; (try simp only [Int.toNat_natCast]))) | walk1 | (dsimp only; walk1)))
    rename _ = _ + _ => hvv
    have e3 : _ = ((valD n ((ds.drop l).take (r - l)) : Nat) : Int) := hvv.trans (by
      rw [hsplit]
      push_cast
      rfl)
    rw [e3]
    exact hret _ _ _ _ (by assumption) (by assumption) ⟨⟨_, rfl⟩, rfl⟩
end
section

theorem my_truthy {prog : Program} {w : World} {A : Around} {E : Value → Shared → Prop} {s : Shared} {h₀ : Heap} {L D : Addr} {news : Led} {n : Nat} {vs : List Value} {xs : List Int} {Q : Bool → Shared → Prop}
    (N : News h₀ L s.heap news) (hm : (D, listOf vs.toArray n) ∈ news) (hi : IntsAre vs xs) (hz : xs.length < 1000) (h : ∀ tk, Q (decide (0 < xs.length)) { s with toks := tk }) : wpAny (model prog w) A (truthy (.ref D)) Q E s := by
  have hl : s.heap.IsList D vs.toArray := ⟨_, (N _ hm).1, rfl, n, rfl⟩
  have hs : vs.toArray.size = xs.length := by rw [List.size_toArray]; exact hi.length
  refine wpAny_truthy_list hl (by rw [hs]; omega) ?_
  have e : (!vs.toArray.isEmpty) = decide (0 < xs.length) := by
    rw [← hi.length]
    cases vs <;> simp
  rw [e]
  exact h _

theorem digits2int_spec (w : World) (D : Addr) (n n0 : Nat) (t2 : Tok) (us : List Value) (ds : List Nat) (hi : IntsAre us (castL ds)) (hlen : ds.length < 100) (hval : valD n ds < 2 ^ 40) (hn : 1 ≤ n) (hn2 : n ≤ 8) :
    Spec w 70 120 1300 [.ref D, .int n t2] (fun news => Tabs news ∧ (D, listOf us.toArray n0) ∈ news) (fun news r news' => (∃ t, r = .int ((valD n ds : Nat) : Int) t) ∧ Kept news news') := by
  unfold Spec
  k_fill
  intro p loose mean mg mb dp un gd cn cs a ccd cl outer A₀ base h₀ L m news s Q E B F X N T hk hd hu hpre hret
  obtain ⟨hpre, hl⟩ := hpre
  have CH := codeHd_of_K (c := 69) (P := 65) X (by kernel_rfl)
  refine wpAny_call ?_
  k_dflt (refine' code_defC ?k1 ?k2 ?k3 ?k4 ?k5 ?kA ?kF ?kK ?k6 ?k7 ?k8 ?k9 ?kB ?kD ?_ ?c2 ?c3 ?c4; (case kA => exact rfl); (case kF => exact rfl); (case kK => assumption); (case k1 => k_asm); (case k2 => k_asm); (case k3 => k_asm); (case k4 => k_asm); (case k5 => k_asm); (case k6 => k_is); (case k7 => k_is); (case k8 => ktr_room); (case k9 => exact BindsTo.of_eq rfl); (case kB => exact rfl); (case kD => decide +kernel); (case c2 => exact rfl); (case c3 => exact rfl); (case c4 => exact rfl); k_whole)
  intro g' L' h' tk' cells' FG' F' N' Y' B' X' T' l1
  k_cells Y'
  simp only [List.cons_append, List.nil_append] at N'
  (try k_fold)
  have hne1 : ∀ p ∈ news, p.1 ≠ L' + 1 := fun p hp => Nat.ne_of_lt (Nat.lt_succ_of_lt (l1 p hp))
  have hne2 : ∀ p ∈ news, p.1 ≠ L' + 1 + 1 := fun p hp => Nat.ne_of_lt (Nat.lt_succ_of_lt (Nat.lt_succ_of_lt (l1 p hp)))
  have hne3 : ∀ p ∈ news, p.1 ≠ L' + 1 + 1 + 1 := fun p hp => Nat.ne_of_lt (Nat.lt_succ_of_lt (Nat.lt_succ_of_lt (Nat.lt_succ_of_lt (l1 p hp))))
  repeat' (first | (k_unfold; (try dsimp only); repeat (first | clear ek | clear qk)) | ((fail_if_success (with_reducible show wpAny _ _ (exec (Stmt.While _ _ _ _) _) _ _ _)); (fail_if_success (with_reducible show wpAny _ _ (exec (Stmt.For _ _ _ _ _) _) _ _ _)); (fail_if_success (with_reducible show wpAny _ _ (exec (Stmt.FunctionDef _ _ _ _ _ _ _ _ _ _) _) _ _ _)); (fail_if_success (with_reducible show wpAny _ _ (call (Value.ref _) _) _ _ _)); first | ((with_reducible show wpAny _ _ (exec _ _) _ _ _); k_fold) | (with_reducible (show wpAny _ _ (call (Value.builtin "len") [Value.ref _]) _ _ _; k_here; k_dflt (refine' my_len_ints ?ok1 ?ok2 ?ok3 ?ok4 ?_; (case ok1 => k_asm); (case ok2 => k_mem); (case ok3 => assumption); (case ok4 => (try simp only [List.length_map, List.length_replicate, digs_length]); omega); k_whole); intro _ _; (try simp only [List.length_map, List.length_replicate, digs_length]))) | (with_reducible (show wpAny _ _ (eval (PySem.Expr.Name _ _) _) _ _ _; k_here; k_dflt (first | (refine' nameX_F ?oN ?oc ?om ?od ?_ ?oa ?ob; (case oa => rfl); (case ob => rfl); (case oN => k_asm); (case oc => rfl); (case om => k_mem); (case od => k_asm); k_whole) | (refine' nameX_C ?oN ?oc ?om ?od ?_ ?oa ?ob; (case oa => rfl); (case ob => rfl); (case oN => k_asm); (case oc => rfl); (case om => k_mem); (case od => k_asm); k_whole)))) | (with_reducible (show wpAny _ _ (truthy (Value.ref _)) _ _ _; k_here; k_dflt (refine' my_truthy ?ok1 ?ok2 ?ok3 ?ok4 ?_; (case ok1 => k_asm); (case ok2 => k_mem); (case ok3 => assumption); (case ok4 => (try simp only [List.length_map]); omega); k_whole); intro _; (try simp only [List.length_map]))) | walk1 | (dsimp only; walk1)))
  have CH' := codeHd_of_K (c := 69) (P := 65) X' (by kernel_rfl)
  obtain ⟨o65, _, hm65⟩ := hpre.2.tab
  have h65 := ltN (l1 _ hm65)
  dsimp only at h65
  rename Fr _ _ _ _ => lF
  rename News _ _ _ _ => lN
  k_dflt (refine' nestDef_K ?d0 ?k0 ?a0 ?_; (case d0 => exact rfl); (case k0 => exact rfl); (case a0 => exact rfl))
  refine nest_any (pre := [_, _, _]) (news := news) (c := 69) (P := 65) lF lN T' CH' rfl ?hP hpre.2 rfl ?_ ?hnd
  case hP =>
    intro q hq
    simp only [List.mem_cons, List.not_mem_nil, or_false] at hq
    rcases hq with rfl | rfl | rfl <;> (refine neN ?_; (try dsimp only); omega)
  case hnd =>
    intro q hq hm
    simp only [List.map_cons, List.map_nil, List.mem_cons, List.not_mem_nil, or_false] at hm
    rcases hm with h | h | h
    · exact hne3 q hq h
    · exact hne2 q hq h
    · exact hne1 q hq h
  intro f c' oc vs t ctv doc pm h2 tk2 news2 F2 N2 hP2 hc2 hcd2 hcv2 hkeep hlt1 hlt2 hnd2
  simp only [List.cons_append, List.nil_append] at N2
  have hne1' : ∀ p ∈ news2, p.1 ≠ L' + 1 := fun p hp e => hnd2 p hp (by simp [e])
  have hne2' : ∀ p ∈ news2, p.1 ≠ L' + 1 + 1 := fun p hp e => hnd2 p hp (by simp [e])
  have hne3' : ∀ p ∈ news2, p.1 ≠ L' + 1 + 1 + 1 := fun p hp e => hnd2 p hp (by simp [e])
  have hl2 : (D, listOf us.toArray n0) ∈ news2 := hkeep _ hl (Solid.ne N hpre.2 hl (solid_list _ _))
  k_lt hlt1
  repeat' (first | (k_unfold; (try dsimp only); repeat (first | clear ek | clear qk)) | ((fail_if_success (with_reducible show wpAny _ _ (exec (Stmt.While _ _ _ _) _) _ _ _)); (fail_if_success (with_reducible show wpAny _ _ (exec (Stmt.For _ _ _ _ _) _) _ _ _)); (fail_if_success (with_reducible show wpAny _ _ (exec (Stmt.FunctionDef _ _ _ _ _ _ _ _ _ _) _) _ _ _)); (fail_if_success (with_reducible show wpAny _ _ (call (Value.ref _) _) _ _ _)); first | ((with_reducible show wpAny _ _ (exec _ _) _ _ _); k_fold) | (with_reducible (show wpAny _ _ (call (Value.builtin "len") [Value.ref _]) _ _ _; k_here; k_dflt (refine' my_len_ints ?ok1 ?ok2 ?ok3 ?ok4 ?_; (case ok1 => k_asm); (case ok2 => k_mem); (case ok3 => assumption); (case ok4 => (try simp only [List.length_map, List.length_replicate, digs_length]); omega); k_whole); intro _ _; (try simp only [List.length_map, List.length_replicate, digs_length]))) | (with_reducible (show wpAny _ _ (eval (PySem.Expr.Name _ _) _) _ _ _; k_here; k_dflt (first | (refine' nameX_F ?oN ?oc ?om ?od ?_ ?oa ?ob; (case oa => rfl); (case ob => rfl); (case oN => k_asm); (case oc => rfl); (case om => k_mem); (case od => k_asm); k_whole) | (refine' nameX_C ?oN ?oc ?om ?od ?_ ?oa ?ob; (case oa => rfl); (case ob => rfl); (case oN => k_asm); (case oc => rfl); (case om => k_mem); (case od => k_asm); k_whole)))) | (with_reducible (show wpAny _ _ (truthy (Value.ref _)) _ _ _; k_here; k_dflt (refine' my_truthy ?ok1 ?ok2 ?ok3 ?ok4 ?_; (case ok1 => k_asm); (case ok2 => k_mem); (case ok3 => assumption); (case ok4 => (try simp only [List.length_map]); omega); k_whole); intro _; (try simp only [List.length_map]))) | walk1 | (dsimp only; walk1)))
  · rename News _ _ _ _ => lN2
    rename 0 < ds.length => hpos
    have e : (ds.drop 0).take (ds.length - 0) = ds := by simp
    refine' Spec.use (d2i_inner w f c' (L' + 1) (L' + 1 + 1 + 1) (L' + 1 + 1) D doc pm ctv oc _ _ _ vs t t2 n n0 _ us ds ?hf ?hc hcd2 hcv2 ?hD ?hDd ?hI ?hId ?hN ?hNd ?hl hi hlen hn hn2 ds.length 0 ds.length _ _ (by omega) hpos (Nat.le_refl _) (by rw [e]; exact hval)) ?z1 ?z2 ?z3 lN2 ?z5 rfl ?z6 ?z7 rfl ?_
    case hf => exact List.mem_cons_self
    case hc => k_mem
    case hD => k_mem
    case hI => k_mem
    case hN => k_mem
    case hl => k_mem
    case hDd => assumption
    case hId => assumption
    case hNd => assumption
    case z1 => k_asm
    case z2 => k_asm
    case z3 => k_asm
    case z5 => k_asm
    case z6 => ktr_room
    case z7 => ktr_units
    rintro r news' h3 tk3 F3 N3 ⟨⟨tr, rfl⟩, rfl⟩
    rw [e]
    repeat' (first | (k_unfold; (try dsimp only); repeat (first | clear ek | clear qk)) | ((fail_if_success (with_reducible show wpAny _ _ (exec (Stmt.While _ _ _ _) _) _ _ _)); (fail_if_success (with_reducible show wpAny _ _ (exec (Stmt.For _ _ _ _ _) _) _ _ _)); (fail_if_success (with_reducible show wpAny _ _ (exec (Stmt.FunctionDef _ _ _ _ _ _ _ _ _ _) _) _ _ _)); (fail_if_success (with_reducible show wpAny _ _ (call (Value.ref _) _) _ _ _)); first | ((with_reducible show wpAny _ _ (exec _ _) _ _ _); k_fold) | (with_reducible (show wpAny _ _ (call (Value.builtin "len") [Value.ref _]) _ _ _; k_here; k_dflt (refine' my_len_ints ?ok1 ?ok2 ?ok3 ?ok4 ?_; (case ok1 => k_asm); (case ok2 => k_mem); (case ok3 => assumption); (case ok4 => (try simp only [List.length_map, List.length_replicate, digs_length]); omega); k_whole); intro _ _; (try simp only [List.length_map, List.length_replicate, digs_length]))) | (with_reducible (show wpAny _ _ (eval (PySem.Expr.Name _ _) _) _ _ _; k_here; k_dflt (first | (refine' nameX_F ?oN ?oc ?om ?od ?_ ?oa ?ob; (case oa => rfl); (case ob => rfl); (case oN => k_asm); (case oc => rfl); (case om => k_mem); (case od => k_asm); k_whole) | (refine' nameX_C ?oN ?oc ?om ?od ?_ ?oa ?ob; (case oa => rfl); (case ob => rfl); (case oN => k_asm); (case oc => rfl); (case om => k_mem); (case od => k_asm); k_whole)))) | (with_reducible (show wpAny _ _ (truthy (Value.ref _)) _ _ _; k_here; k_dflt (refine' my_truthy ?ok1 ?ok2 ?ok3 ?ok4 ?_; (case ok1 => k_asm); (case ok2 => k_mem); (case ok3 => assumption); (case ok4 => (try simp only [List.length_map]); omega); k_whole); intro _; (try simp only [List.length_map]))) | walk1 | (dsimp only; walk1)))
    refine hret _ _ _ _ (by assumption) (by assumption) ⟨⟨_, rfl⟩, ?_⟩
    refine ⟨⟨(TabOk.keep N hpre.1 hpre.2 (by decide) hkeep).sub fun q hq => by k_mem, ⟨_, by k_mem, .inr ⟨c', oc, vs, t, rfl, by k_mem, hcd2, hcv2⟩⟩⟩, fun q hq hs => ?_⟩
    have hq2 := hkeep q hq (Solid.ne N hpre.2 hq hs)
    k_mem
  · have hds : ds = [] := by
      cases ds with
      | nil => rfl
      | cons d r => rename ¬ _ => hh; simp at hh
    subst hds
    refine hret _ _ _ _ (by assumption) (by assumption) ⟨⟨_, rfl⟩, ?_⟩
    refine ⟨⟨(TabOk.keep N hpre.1 hpre.2 (by decide) hkeep).sub fun q hq => by k_mem, ⟨_, by k_mem, .inr ⟨c', oc, vs, t, rfl, by k_mem, hcd2, hcv2⟩⟩⟩, fun q hq hs => ?_⟩
    have hq2 := hkeep q hq (Solid.ne N hpre.2 hq hs)
    k_mem
end
section

abbrev tupOf (its : List Value) : Obj := { cls := .type "tuple", data := .seq its.toArray 0 }

theorem div2n1n_spec (w : World) (x b n : Nat) (t1 t2 t3 : Tok) (hx : x < 2 ^ 40) (hb : 1 ≤ b) (hb2 : b < 1000) :
    Spec w 49 5 50 [.int x t1, .int b t2, .int n t3] (fun _ => True) (fun news r news' => ∃ T ta tb, r = .ref T ∧ news' = (T, tupOf [.int ((x / b : Nat) : Int) ta, .int ((x % b : Nat) : Int) tb]) :: news) := by
  unfold Spec
  k_fill
  intro p loose mean mg mb dp un gd cn cs a ccd cl outer A₀ base h₀ L m news s Q E B F X N T hk hd hu hpre hret
  have hbits := bits_lt hx
  refine wpAny_call ?_
  k_dflt ktr_enter
  repeat' ((fail_if_success (with_reducible show wpAny _ _ (exec (Stmt.While _ _ _ _) _) _ _ _)); (fail_if_success (with_reducible show wpAny _ _ (exec (Stmt.For _ _ _ _ _) _) _ _ _)); (fail_if_success (with_reducible show wpAny _ _ (exec (Stmt.FunctionDef _ _ _ _ _ _ _ _ _ _) _) _ _ _)); (fail_if_success (with_reducible show wpAny _ _ (call (Value.ref _) _) _ _ _)); first | (k_unfold; (try dsimp only)) | (with_reducible (show wpAny _ _ (binaryOp Operator.Sub (Value.int _ _) (Value.int _ _)) _ _ _; k_here; (refine my_sub ?_); intro _ _ _)) | walk1 | (dsimp only; walk1))
  rename News _ _ _ _ => lN
  have e1 : (x : Int).fdiv (b : Int) = ((x / b : Nat) : Int) := by rw [Int.fdiv_eq_ediv_of_nonneg _ (by omega)]; push_cast; rfl
  have e2 : (x : Int).fmod (b : Int) = ((x % b : Nat) : Int) := by rw [Int.fmod_eq_emod_of_nonneg _ (by omega)]; push_cast; rfl
  rw [e1, e2] at lN
  exact hret _ _ _ _ (by assumption) lN ⟨_, _, _, rfl, rfl⟩

/-- an object of the ledger changed -/
theorem news_upd {h₀ h h' : Heap} {L D : Addr} {o o' : Obj} {led : Led} (N : News h₀ L h led) (hm : (D, o) ∈ led) (hs : Heap.SameBut D h h') (ho : h'.get? D = some o') :
    ∃ led', News h₀ L h' led' ∧ (D, o') ∈ led' ∧ (∀ p ∈ led, p.1 ≠ D → p ∈ led') ∧ (∀ p ∈ led', p.1 ≠ D → p ∈ led) := by
  refine ⟨(D, o') :: led.filter (fun p => p.1 ≠ D), fun p hp => ?_, List.mem_cons_self, fun p hp hne => List.mem_cons_of_mem _ (List.mem_filter.mpr ⟨hp, by simpa using hne⟩), fun p hp hne => ?_⟩
  · rcases List.mem_cons.mp hp with rfl | hp
    · exact ⟨ho, (N _ hm).2⟩
    · have h1 := List.mem_filter.mp hp
      have hne : p.1 ≠ D := by simpa using h1.2
      exact ⟨(hs.2 _ hne).trans (N p h1.1).1, (N p h1.1).2⟩
  · rcases List.mem_cons.mp hp with rfl | hp
    · exact absurd rfl hne
    · exact (List.mem_filter.mp hp).1

section
variable {prog : Program} {w : World} {A : Around} {E : Value → Shared → Prop} {s : Shared} {h₀ : Heap} {L D : Addr} {m : Str → Option Value} {led : Led} {n : Nat} {vs : List Value} {Q : Value → Shared → Prop}
theorem my_append {x : Value} (F : Fr h₀ L s.heap m) (N : News h₀ L s.heap led) (hm : (D, listOf vs.toArray n) ∈ led) (hz : vs.length < 1000)
    (h : ∀ h' led', Fr h₀ L h' m → News h₀ L h' led' → (D, listOf (vs ++ [x]).toArray (n + 1)) ∈ led' → (∀ p ∈ led, p.1 ≠ D → p ∈ led') → (∀ p ∈ led', p.1 ≠ D → p ∈ led) → Q .none { s with heap := h' }) :
    wpAny (model prog w) A (call (.builtin "list.append") [.ref D, x]) Q E s := by
  have z := N _ hm
  refine append_at (hsz := by rw [List.size_toArray, sizeLine_eq]; omega) z.1 fun h' hs ho' => ?_
  have e : vs.toArray.push x = (vs ++ [x]).toArray := by simp
  rw [e] at ho'
  obtain ⟨led', n1, n2, n3, n4⟩ := news_upd N hm hs ho'
  exact h h' led' (F.change hs z.2.1 z.2.2) n1 n2 n3 n4
end
end
section

theorem ints_append {vs us : List Value} {xs ys : List Int} (h : IntsAre vs xs) (h' : IntsAre us ys) : IntsAre (vs ++ us) (xs ++ ys) := by
  induction h with
  | nil => exact h'
  | cons k t _ ih => exact .cons k t ih
theorem ints_reverse {vs : List Value} {xs : List Int} (h : IntsAre vs xs) : IntsAre vs.reverse xs.reverse := by
  induction h with
  | nil => exact .nil
  | cons k t _ ih =>
    rw [List.reverse_cons, List.reverse_cons]
    exact ints_append ih (.cons k t .nil)
theorem ints_one (x : Int) (t : Tok) : IntsAre [.int x t] [x] := .cons x t .nil

section
variable {prog : Program} {w : World} {A : Around} {E : Value → Shared → Prop} {s : Shared} {h₀ : Heap} {L D : Addr} {m : Str → Option Value} {led : Led} {n : Nat} {vs : List Value} {Q : Value → Shared → Prop}
theorem my_reverse (Fx : Fr h₀ L s.heap m) (N : News h₀ L s.heap led) (hm : (D, listOf vs.toArray n) ∈ led) (hz : vs.length < 1000)
    (h : ∀ h' led', Fr h₀ L h' m → News h₀ L h' led' → (D, listOf vs.reverse.toArray n) ∈ led' → (∀ p ∈ led, p.1 ≠ D → p ∈ led') → (∀ p ∈ led', p.1 ≠ D → p ∈ led) → Q .none { s with heap := h' }) :
    wpAny (model prog w) A (call (.builtin "list.reverse") [.ref D]) Q E s := by
  have z := N _ hm
  have ho' := PySem.IsL.update z.1 (fun x => x.reverse)
  have e1 : vs.toArray.reverse = vs.reverse.toArray := by simp
  have e2 : (if (vs.reverse.toArray.size == vs.toArray.size) = true then n else n + 1) = n := by simp
  rw [e1, e2] at ho'
  obtain ⟨led', n1, n2, n3, n4⟩ := news_upd N hm (Heap.SameBut.update ..) ho'
  exact call_meets PySem.F.slot_list_reverse ⟨_, z.1, rfl⟩ PySem.F.entry_list_reverse (PySem.F.args_list_reverse_1 _) (PySem.AutoSeq1.list_reverse_list_0 D vs.toArray n (by rw [List.size_toArray, sizeLine_eq]; omega))
    ⟨z.1, h _ led' (Fx.change (Heap.SameBut.update ..) z.2.1 z.2.2) n1 n2 n3 n4⟩
end

section
variable {prog : Program} {w : World} {A : Around} {E : Value → Shared → Prop} {s : Shared} {env : Env} {h₀ : Heap} {x : Str} {body : List Stmt} {Q : Flow → Shared → Prop}
/-- a for over a list's reversed iterator; the list stays -/
theorem for_revS {σ : Type} {I l : Addr} {vs : List Value} {k : Nat} {m₀ : Str → Option Value} {news : Led} (ps : σ → List (Str × Value)) (stored : List Str) (Inv : Nat → σ → Led → Prop) (c₀ : σ) (hh : A.handled = none) (F : Fr h₀ env.locals s.heap m₀)
    (N : News h₀ env.locals s.heap ((I, revObj l ((vs.length : Int) - 1)) :: news)) (hnI : ∀ p ∈ news, p.1 ≠ I) (hl : (l, listOf vs.toArray k) ∈ news) (hIl : ∀ i c n₁, Inv i c n₁ → (l, listOf vs.toArray k) ∈ n₁)
    (hk : ∀ p ∈ ps c₀, m₀ p.1 = some p.2) (h0 : Inv 0 c₀ news)
    (turn : ∀ i v cc (u : Str → Option Value) news₁ h tk o, i < vs.length → vs[vs.length - 1 - i]? = some v → Inv i cc news₁ → (∀ p ∈ news₁, p.1 ≠ I) → Fr h₀ env.locals h (fun y => if y = x then some v else kstB (fun z => if stored.contains z then u z else m₀ z) (ps cc) y) → News h₀ env.locals h ((I, o) :: news₁) →
      wpAny (model prog w) A (execs body env) (ForPostS h₀ env.locals (I, o) ps stored m₀ (Inv (i + 1)) { s with heap := h, toks := tk } Q) E { s with heap := h, toks := tk })
    (done : ∀ cc (u : Str → Option Value) news₁ h tk, Inv vs.length cc news₁ → Fr h₀ env.locals h (kstB (fun z => if stored.contains z then u z else m₀ z) (ps cc)) → News h₀ env.locals h news₁ → Q .next { s with heap := h, toks := tk }) :
    wpAny (model prog w) A (pyIter (.ref I)) (fun it s₂ => LoopAtV prog w A h₀ env x body Q E it s₂) E s := by
  have hI := N _ (List.mem_cons_self ..)
  have hlN := N _ (List.mem_cons_of_mem _ hl)
  have hne : l ≠ I := hnI _ hl
  have hls : s.heap.IsList l vs.toArray := ⟨_, hlN.1, rfl, k, rfl⟩
  have hit : s.heap.IsRevIter I l ((vs.length : Int) - 1) := ⟨_, hI.1, rfl, rfl⟩
  have W := Walks.listRev (prog := prog) (w := w) hh I l hne vs.toArray
  have hlen : vs.toArray.size = vs.length := by simp
  rw [hlen] at W
  refine wpAny_pyIter_revIter hit ?_
  let J : Nat → (Str → Option Value) → Led → Prop := fun i m₁ news₁ => ∃ cc, Inv i cc news₁ ∧ (∀ p ∈ ps cc, m₁ p.1 = some p.2) ∧ (∀ z, (∀ p ∈ ps cc, z ≠ p.1) → stored.contains z = false → m₁ z = m₀ z)
  refine ⟨I, _, _, vs.length, _, _, m₀, news, J, rfl, W, ?_, ?_, ?_, ⟨Nat.zero_le _, ?_, hls⟩, F, (fun p hp => N p (List.mem_cons_of_mem _ hp)), ⟨c₀, h0, hk, fun _ _ _ => rfl⟩, ?_, ?_⟩
  · intro h
    rcases List.mem_cons.mp h with h | h
    · exact hI.2.1 h.symm
    · exact hlN.2.1 (List.mem_singleton.mp h).symm
  · intro b hb
    rw [List.mem_singleton.mp hb]
    exact hI.2.2
  · intro p hp h
    exact hnI p hp (List.mem_singleton.mp h)
  · have e : (vs.length : Int) - 1 - ((0 : Nat) : Int) = (vs.length : Int) - 1 := by omega
    rw [e]; exact hit
  · rintro i v m₁ news₁ s₁ own ⟨hh', tk', rfl⟩ hin hP ⟨cc, hinv, h1, h2⟩ hoff hown hget hall hst F₁ N₁
    obtain ⟨it, hit', hic, hid⟩ := hst.2.1
    have hI' := hall I (by simp) hI.2.2 _ hit'
    have hneI : ∀ p ∈ news₁, p.1 ≠ I := fun p hp h => hoff p hp (by simp [h])
    have N₂ : News h₀ env.locals hh' ((I, it) :: news₁) := fun p hp => by
      rcases List.mem_cons.mp hp with rfl | hp
      · exact N₁ _ (List.mem_append_left _ hI')
      · exact N₁ p (List.mem_append_right _ hp)
    have e := frame_is h1 h2
    rw [← e] at F₁
    have hP' : vs[vs.length - 1 - i]? = some v := by simpa using hP
    have hlm := hIl i cc news₁ hinv
    refine wpAny_mono (turn i v cc m₁ news₁ hh' tk' it hin hP' hinv hneI F₁ N₂) (fun f s₂ p => ?_) fun _ _ e => e
    have fin : ForEndS h₀ env.locals (I, it) ps stored m₀ (Inv (i + 1)) { s with heap := hh', toks := tk' } s₂ → LoopStepU h₀ env.locals [I] own (J (i + 1)) { s with heap := hh', toks := tk' } .next s₂ := by
      rintro ⟨c', h', tk, m', led, news', e, F', N', hIl', hn, hk', hr', hi'⟩
      refine ⟨rfl, h', tk, m', news', e, F', fun p hp => ?_, fun p hp h => (hn p hp).2 (List.mem_singleton.mp h), c', hi', hk', hr'⟩
      rcases List.mem_append.mp hp with hp | hp
      · have h2 := hget p hp
        obtain ⟨p1, p2⟩ := p
        simp only at h2
        rcases List.mem_cons.mp (hown _ hp) with h1 | h1
        · simp only at h1
          subst h1
          rw [hit'] at h2
          rw [← Option.some.inj h2]
          exact N' _ hIl'
        · have h3 := List.mem_singleton.mp h1
          simp only at h3
          subst h3
          have h4 := (N₂ _ (List.mem_cons_of_mem _ hlm)).1
          simp only at h4
          rw [h2] at h4
          rw [Option.some.inj h4]
          exact N' _ (hn _ (hIl _ _ _ hi')).1
      · exact N' p (hn p hp).1
    cases f with
    | ret v => exact .ret p
    | brk => exact .brk p
    | next => exact .next (fin p)
    | cont => exact .cont (fin p)
  · rintro h' tk m' news' F' N' _ ⟨cc, hinv, h1, h2⟩
    have e := frame_is h1 h2
    rw [← e] at F'
    exact done cc m' news' h' tk hinv F' N'
end
end
section

/-- the tables stay where a list alone changes -/
theorem Tabs.upd {h₀ h : Heap} {L Lq : Addr} {its : Array Value} {e : Nat} {led led' : Led} (N : News h₀ L h led) (T : Tabs led) (hm : (Lq, listOf its e) ∈ led) (hk : ∀ p ∈ led, p.1 ≠ Lq → p ∈ led') : Tabs led' := by
  have tab : ∀ (P : Addr) (o : Obj), IsTab o → (P, o) ∈ led → (P, o) ∈ led' := fun P o ht hp => hk _ hp fun q => by
    simp only at q
    subst q
    exact solid_list its e (news_same N hp hm ▸ ht)
  have fld : ∀ q ∈ led, Solid q.2 → (∃ vs, q.2.data = .fields vs) → q ∈ led' := fun q hq _ ⟨vs, hv⟩ => hk _ hq fun e' => by
    obtain ⟨a, o⟩ := q
    simp only at e' hv
    subst e'
    rw [news_same N hq hm] at hv
    cases hv
  exact ⟨T.1.mono (tab 58) fld, T.2.mono (tab 65) fld⟩

/-- one step of the long division -/
theorem div_step {A b d B : Nat} (hb : 0 < b) : (A * B + d) / b = (A / b) * B + ((A % b) * B + d) / b ∧ (A * B + d) % b = ((A % b) * B + d) % b := by
  have h := Nat.div_add_mod A b
  have e : A * B + d = b * ((A / b) * B) + ((A % b) * B + d) := by
    conv => lhs; rw [← h]
    rw [Nat.add_mul, Nat.mul_assoc, Nat.add_assoc]
  rw [e]
  exact ⟨by rw [Nat.mul_add_div hb], by rw [Nat.mul_add_mod]⟩
theorem top_step (n x k i : Nat) (h : i < k) : x / 2 ^ (n * (k - (i + 1))) = x / 2 ^ (n * (k - i)) * 2 ^ n + x / 2 ^ (n * (k - 1 - i)) % 2 ^ n := by
  have e1 : k - (i + 1) = k - 1 - i := by omega
  have e2 : n * (k - i) = n * (k - 1 - i) + n := by
    rw [show k - i = (k - 1 - i) + 1 from by omega, Nat.mul_add, Nat.mul_one]
  rw [e1, e2, Nat.pow_add, ← Nat.div_div_eq_div_mul]
  have := Nat.div_add_mod (x / 2 ^ (n * (k - 1 - i))) (2 ^ n)
  rw [Nat.mul_comm] at this
  omega

theorem divmod_pos_spec (w : World) (x b : Nat) (t1 t2 : Tok) (hx : x < 2 ^ 40) (hb : 1 ≤ b) (hb2 : b < 200) :
    Spec w 77 130 1400 [.int x t1, .int b t2] Tabs (fun news r news' => ∃ T ta tb, r = .ref T ∧ (T, tupOf [.int ((x / b : Nat) : Int) ta, .int ((x % b : Nat) : Int) tb]) ∈ news' ∧ Kept news news') := by
  unfold Spec
  k_fill
  intro p loose mean mg mb dp un gd cn cs a ccd cl outer A₀ base h₀ L m news s Q E B F X N T hk hd hu hpre hret
  have hbn : 1 ≤ Builtin.Int.intBits (b : Int) ∧ Builtin.Int.intBits (b : Int) ≤ 8 := by
    have e : Builtin.Int.intBits (b : Int) = b.log2 + 1 := by
      unfold Builtin.Int.intBits
      rw [if_neg (by simp; omega), Int.natAbs_natCast]
    have := (Nat.log2_lt (show b ≠ 0 by omega)).mpr (show b < 2 ^ 8 by omega)
    omega
  refine wpAny_call ?_
  k_dflt ktr_enter
  repeat' (first | (k_unfold; (try dsimp only); repeat (first | clear ek | clear qk)) | ((fail_if_success (with_reducible show wpAny _ _ (exec (Stmt.While _ _ _ _) _) _ _ _)); (fail_if_success (with_reducible show wpAny _ _ (exec (Stmt.For _ _ _ _ _) _) _ _ _)); (fail_if_success (with_reducible show wpAny _ _ (exec (Stmt.FunctionDef _ _ _ _ _ _ _ _ _ _) _) _ _ _)); (fail_if_success (with_reducible show wpAny _ _ (call (Value.ref _) _) _ _ _)); first | ((first | (with_reducible show wpAny _ _ (exec _ _) _ _ _) | ((with_reducible show wpAny _ _ (eval _ _) _ _ _); (fail_if_success (with_reducible show wpAny _ _ (eval (PySem.Expr.Name _ _) _) _ _ _)); (fail_if_success (with_reducible show wpAny _ _ (eval (PySem.Expr.Constant _ _ _) _) _ _ _)); skip)); k_fold) | (with_reducible (show wpAny _ _ (binaryOp Operator.Add (Value.int _ _) (Value.int _ _)) _ _ _; k_here; (refine my_add ?_); intro _ _ _)) | (with_reducible (show wpAny _ _ (binaryOp Operator.LShift (Value.int _ _) (Value.int _ _)) _ _ _; k_here; (refine my_shlN (by omega) (by omega) ?_); intro _)) | (with_reducible (show wpAny _ _ (call (Value.builtin "list.append") _) _ _ _; k_here; k_dflt (refine' my_append ?ok1 ?ok2 ?ok3 ?ok4 ?_; (case ok1 => k_asm); (case ok2 => k_asm); (case ok3 => k_mem); (case ok4 => omega); k_whole); intro _ _ _ _ _ _ _)) | (with_reducible (show wpAny _ _ (call (Value.builtin "list.reverse") _) _ _ _; k_here; k_dflt (refine' my_reverse ?ok1 ?ok2 ?ok3 ?ok4 ?_; (case ok1 => k_asm); (case ok2 => k_asm); (case ok3 => k_mem); (case ok4 => omega); k_whole); intro _ _ _ _ _ _ _)) | walk1 | (dsimp only; walk1)))
  generalize hn : Builtin.Int.intBits (b : Int) = n at *
  refine Spec.use (int2digits_spec w x n _ _ hbn.1 hbn.2 hx) (by k_asm) (by k_asm) (by k_asm) (by k_asm) (by k_asm) rfl (by ktr_room) (by ktr_units) hpre ?_
  rintro r news1 h1 tk1 F1 N1 ⟨D, us, n0, rfl, hD, hi, hkept⟩
  generalize hkk : (Builtin.Int.intBits (x : Int) + n - 1) / n = k at *
  have hlen : us.length = k := by rw [hi.length, digs_length]
  have hk100 : k < 100 := by
    rw [← hkk]
    exact Nat.lt_of_le_of_lt (Nat.div_le_self _ _) (by have := bits_lt hx; omega)
  repeat' (first | (k_unfold; (try dsimp only); repeat (first | clear ek | clear qk)) | ((fail_if_success (with_reducible show wpAny _ _ (exec (Stmt.While _ _ _ _) _) _ _ _)); (fail_if_success (with_reducible show wpAny _ _ (exec (Stmt.For _ _ _ _ _) _) _ _ _)); (fail_if_success (with_reducible show wpAny _ _ (exec (Stmt.FunctionDef _ _ _ _ _ _ _ _ _ _) _) _ _ _)); (fail_if_success (with_reducible show wpAny _ _ (call (Value.ref _) _) _ _ _)); first | ((first | (with_reducible show wpAny _ _ (exec _ _) _ _ _) | ((with_reducible show wpAny _ _ (eval _ _) _ _ _); (fail_if_success (with_reducible show wpAny _ _ (eval (PySem.Expr.Name _ _) _) _ _ _)); (fail_if_success (with_reducible show wpAny _ _ (eval (PySem.Expr.Constant _ _ _) _) _ _ _)); skip)); k_fold) | (with_reducible (show wpAny _ _ (binaryOp Operator.Add (Value.int _ _) (Value.int _ _)) _ _ _; k_here; (refine my_add ?_); intro _ _ _)) | (with_reducible (show wpAny _ _ (binaryOp Operator.LShift (Value.int _ _) (Value.int _ _)) _ _ _; k_here; (refine my_shlN (by omega) (by omega) ?_); intro _)) | (with_reducible (show wpAny _ _ (call (Value.builtin "list.append") _) _ _ _; k_here; k_dflt (refine' my_append ?ok1 ?ok2 ?ok3 ?ok4 ?_; (case ok1 => k_asm); (case ok2 => k_asm); (case ok3 => k_mem); (case ok4 => omega); k_whole); intro _ _ _ _ _ _ _)) | (with_reducible (show wpAny _ _ (call (Value.builtin "list.reverse") _) _ _ _; k_here; k_dflt (refine' my_reverse ?ok1 ?ok2 ?ok3 ?ok4 ?_; (case ok1 => k_asm); (case ok2 => k_asm); (case ok3 => k_mem); (case ok4 => omega); k_whole); intro _ _ _ _ _ _ _)) | walk1 | (dsimp only; walk1)))
  (first | (with_reducible (show wpAny _ _ (binaryOp Operator.Add (Value.int _ _) (Value.int _ _)) _ _ _; k_here; (refine my_add ?_); intro _ _ _)) | (with_reducible (show wpAny _ _ (binaryOp Operator.LShift (Value.int _ _) (Value.int _ _)) _ _ _; k_here; (refine my_shlN (by omega) (by omega) ?_); intro _)) | (with_reducible (show wpAny _ _ (call (Value.builtin "list.append") _) _ _ _; k_here; k_dflt (refine' my_append ?ok1 ?ok2 ?ok3 ?ok4 ?_; (case ok1 => k_asm); (case ok2 => k_asm); (case ok3 => k_mem); (case ok4 => omega); k_whole); intro _ _ _ _ _ _ _)) | (with_reducible (show wpAny _ _ (call (Value.builtin "list.reverse") _) _ _ _; k_here; k_dflt (refine' my_reverse ?ok1 ?ok2 ?ok3 ?ok4 ?_; (case ok1 => k_asm); (case ok2 => k_asm); (case ok3 => k_mem); (case ok4 => omega); k_whole); intro _ _ _ _ _ _ _)) | walk1)
  repeat' (first | (k_unfold; (try dsimp only); repeat (first | clear ek | clear qk)) | ((fail_if_success (with_reducible show wpAny _ _ (exec (Stmt.While _ _ _ _) _) _ _ _)); (fail_if_success (with_reducible show wpAny _ _ (exec (Stmt.For _ _ _ _ _) _) _ _ _)); (fail_if_success (with_reducible show wpAny _ _ (exec (Stmt.FunctionDef _ _ _ _ _ _ _ _ _ _) _) _ _ _)); (fail_if_success (with_reducible show wpAny _ _ (call (Value.ref _) _) _ _ _)); first | ((first | (with_reducible show wpAny _ _ (exec _ _) _ _ _) | ((with_reducible show wpAny _ _ (eval _ _) _ _ _); (fail_if_success (with_reducible show wpAny _ _ (eval (PySem.Expr.Name _ _) _) _ _ _)); (fail_if_success (with_reducible show wpAny _ _ (eval (PySem.Expr.Constant _ _ _) _) _ _ _)); skip)); k_fold) | (with_reducible (show wpAny _ _ (binaryOp Operator.Add (Value.int _ _) (Value.int _ _)) _ _ _; k_here; (refine my_add ?_); intro _ _ _)) | (with_reducible (show wpAny _ _ (binaryOp Operator.LShift (Value.int _ _) (Value.int _ _)) _ _ _; k_here; (refine my_shlN (by omega) (by omega) ?_); intro _)) | (with_reducible (show wpAny _ _ (call (Value.builtin "list.append") _) _ _ _; k_here; k_dflt (refine' my_append ?ok1 ?ok2 ?ok3 ?ok4 ?_; (case ok1 => k_asm); (case ok2 => k_asm); (case ok3 => k_mem); (case ok4 => omega); k_whole); intro _ _ _ _ _ _ _)) | (with_reducible (show wpAny _ _ (call (Value.builtin "list.reverse") _) _ _ _; k_here; k_dflt (refine' my_reverse ?ok1 ?ok2 ?ok3 ?ok4 ?_; (case ok1 => k_asm); (case ok2 => k_asm); (case ok3 => k_mem); (case ok4 => omega); k_whole); intro _ _ _ _ _ _ _)) | walk1 | (dsimp only; walk1)))
  rename Fr _ _ _ _ => lF
  rename News _ _ _ _ => lN
  rename ∀ p, p ∈ news1 → Prod.fst p < _ => l1
  rename_i Lq hA hB
  refine krv_reversed lF lN ⟨_, (lN _ (List.mem_cons_of_mem _ hD)).1, rfl, n0, rfl⟩ ?_
  intro I h2 F2 N2 l2
  have hDq : D ≠ Lq := Nat.ne_of_lt (l1 _ hD)
  refine' for_revS (σ := List Nat × Nat × Tok) (vs := us) (k := n0) (fun c => [(Str.ofString "r", .int c.2.1 c.2.2)]) [Str.ofString "a_digit", Str.ofString "q_digit"]
    (fun i c news₁ => (D, listOf us.toArray n0) ∈ news₁ ∧ (∃ uq e, (Lq, listOf (List.toArray uq) e) ∈ news₁ ∧ IntsAre uq (castL c.1)) ∧ c.1.length = i ∧ Tabs news₁ ∧ (∀ p ∈ news, Solid p.2 → p ∈ news₁ ∧ p.1 ≠ Lq) ∧ valD n c.1.reverse = (x / 2 ^ (n * (k - i))) / b ∧ c.2.1 = (x / 2 ^ (n * (k - i))) % b)
    ([], 0, _) rfl F2 N2 (fun p hp => Nat.ne_of_lt (l2 p hp)) (List.mem_cons_of_mem _ hD) (fun _ _ _ h => h.1) ?kk ?k0 ?turn ?done
  case kk => kst_all
  case k0 =>
    have hxk : x / 2 ^ (n * (k - 0)) = 0 := by
      apply Nat.div_eq_of_lt
      by_cases hx0 : x = 0
      · subst hx0; exact Nat.two_pow_pos _
      · rw [← hkk]
        exact Nat.lt_of_lt_of_le (bits_pow hx0).1 (Nat.pow_le_pow_right (by decide) (up_div hbn.1))
    refine ⟨List.mem_cons_of_mem _ hD, ⟨[], 0, List.mem_cons_self, .nil⟩, rfl, hkept.1.sub fun q hq => List.mem_cons_of_mem _ hq, fun q hq hs => ⟨List.mem_cons_of_mem _ (hkept.2 q hq hs), Nat.ne_of_lt (l1 _ (hkept.2 q hq hs))⟩, ?_, ?_⟩
    · show valD n [] = _
      rw [hxk]; simp [valD]
    · show 0 = _
      rw [hxk]; simp
  case turn =>
    rintro i v ⟨qs, r, tr⟩ u news₁ h tk o hin hv ⟨k1, ⟨uq, e, k2, k3⟩, k4, k5, k6, k7, k8⟩ hneI F3 N3
    dsimp only at k3 k4 k7 k8 F3
    dsimp only [kstB] at F3
    rw [hlen] at hin hv
    have hd9 : (digs n x k)[k - 1 - i]? = some ((x / 2 ^ (n * (k - 1 - i)) % 2 ^ n : Nat) : Int) := by
      unfold digs
      rw [List.getElem?_map, List.getElem?_range (by omega)]; rfl
    obtain ⟨td, htd⟩ := hi.get _ _ hd9
    rw [hv] at htd
    obtain rfl := Option.some.inj htd
    have hrb : r < b := by rw [k8]; exact Nat.mod_lt _ (by omega)
    have hdlt : x / 2 ^ (n * (k - 1 - i)) % 2 ^ n < 2 ^ n := Nat.mod_lt _ (Nat.two_pow_pos _)
    have hp8 : 2 ^ n ≤ 2 ^ 8 := Nat.pow_le_pow_right (by decide) hbn.2
    have hxx : r * 2 ^ n + x / 2 ^ (n * (k - 1 - i)) % 2 ^ n < 2 ^ 40 := by
      have : r * 2 ^ n ≤ 200 * 2 ^ 8 := Nat.mul_le_mul (by omega) hp8
      omega
    (try k_fold)
    repeat' (first | (k_unfold; (try dsimp only); repeat (first | clear ek | clear qk)) | ((fail_if_success (with_reducible show wpAny _ _ (exec (Stmt.While _ _ _ _) _) _ _ _)); (fail_if_success (with_reducible show wpAny _ _ (exec (Stmt.For _ _ _ _ _) _) _ _ _)); (fail_if_success (with_reducible show wpAny _ _ (exec (Stmt.FunctionDef _ _ _ _ _ _ _ _ _ _) _) _ _ _)); (fail_if_success (with_reducible show wpAny _ _ (call (Value.ref _) _) _ _ _)); first | ((first | (with_reducible show wpAny _ _ (exec _ _) _ _ _) | ((with_reducible show wpAny _ _ (eval _ _) _ _ _); (fail_if_success (with_reducible show wpAny _ _ (eval (PySem.Expr.Name _ _) _) _ _ _)); (fail_if_success (with_reducible show wpAny _ _ (eval (PySem.Expr.Constant _ _ _) _) _ _ _)); skip)); k_fold) | (with_reducible (show wpAny _ _ (binaryOp Operator.Add (Value.int _ _) (Value.int _ _)) _ _ _; k_here; (refine my_add ?_); intro _ _ _)) | (with_reducible (show wpAny _ _ (binaryOp Operator.LShift (Value.int _ _) (Value.int _ _)) _ _ _; k_here; (refine my_shlN (by omega) (by omega) ?_); intro _)) | (with_reducible (show wpAny _ _ (call (Value.builtin "list.append") _) _ _ _; k_here; k_dflt (refine' my_append ?ok1 ?ok2 ?ok3 ?ok4 ?_; (case ok1 => k_asm); (case ok2 => k_asm); (case ok3 => k_mem); (case ok4 => omega); k_whole); intro _ _ _ _ _ _ _)) | (with_reducible (show wpAny _ _ (call (Value.builtin "list.reverse") _) _ _ _; k_here; k_dflt (refine' my_reverse ?ok1 ?ok2 ?ok3 ?ok4 ?_; (case ok1 => k_asm); (case ok2 => k_asm); (case ok3 => k_mem); (case ok4 => omega); k_whole); intro _ _ _ _ _ _ _)) | walk1 | (dsimp only; walk1)))
    rename _ = _ + _ => hvv
    generalize hdd : x / 2 ^ (n * (k - 1 - i)) % 2 ^ n = d at *
    have hvv2 : _ = ((r * 2 ^ n + d : Nat) : Int) := hvv.trans (by push_cast; rfl)
    subst hvv2
    refine Spec.use (div2n1n_spec w (r * 2 ^ n + d) b n _ _ _ hxx hb (by omega)) (by k_asm) (by k_asm) (by k_asm) (by k_asm) (by k_asm) rfl (by ktr_room) (by ktr_units) trivial ?_
    rintro r9 news9 h9 tk9 F9 N9 ⟨T9, ta, tb, rfl, rfl⟩
    have hqlen : uq.length = qs.length := by rw [k3.length]; simp
    repeat' (first | (k_unfold; (try dsimp only); repeat (first | clear ek | clear qk)) | ((fail_if_success (with_reducible show wpAny _ _ (exec (Stmt.While _ _ _ _) _) _ _ _)); (fail_if_success (with_reducible show wpAny _ _ (exec (Stmt.For _ _ _ _ _) _) _ _ _)); (fail_if_success (with_reducible show wpAny _ _ (exec (Stmt.FunctionDef _ _ _ _ _ _ _ _ _ _) _) _ _ _)); (fail_if_success (with_reducible show wpAny _ _ (call (Value.ref _) _) _ _ _)); first | ((first | (with_reducible show wpAny _ _ (exec _ _) _ _ _) | ((with_reducible show wpAny _ _ (eval _ _) _ _ _); (fail_if_success (with_reducible show wpAny _ _ (eval (PySem.Expr.Name _ _) _) _ _ _)); (fail_if_success (with_reducible show wpAny _ _ (eval (PySem.Expr.Constant _ _ _) _) _ _ _)); skip)); k_fold) | (with_reducible (show wpAny _ _ (binaryOp Operator.Add (Value.int _ _) (Value.int _ _)) _ _ _; k_here; (refine my_add ?_); intro _ _ _)) | (with_reducible (show wpAny _ _ (binaryOp Operator.LShift (Value.int _ _) (Value.int _ _)) _ _ _; k_here; (refine my_shlN (by omega) (by omega) ?_); intro _)) | (with_reducible (show wpAny _ _ (call (Value.builtin "list.append") _) _ _ _; k_here; k_dflt (refine' my_append ?ok1 ?ok2 ?ok3 ?ok4 ?_; (case ok1 => k_asm); (case ok2 => k_asm); (case ok3 => k_mem); (case ok4 => omega); k_whole); intro _ _ _ _ _ _ _)) | (with_reducible (show wpAny _ _ (call (Value.builtin "list.reverse") _) _ _ _; k_here; k_dflt (refine' my_reverse ?ok1 ?ok2 ?ok3 ?ok4 ?_; (case ok1 => k_asm); (case ok2 => k_asm); (case ok3 => k_mem); (case ok4 => omega); k_whole); intro _ _ _ _ _ _ _)) | walk1 | (dsimp only; walk1)))
    rename ∀ p, p ∈ _ → Prod.fst p ≠ Lq → p ∈ _ => hm3
    revert hm3
    rename ∀ p, p ∈ _ → Prod.fst p ≠ Lq → p ∈ _ => hm2
    rename (Lq, W.listOf _ (_ + 1)) ∈ _ => hm1
    intro hm3
    rename News _ _ _ _ => lN9
    have hqI : Lq ≠ I := hneI _ k2
    have keep : ∀ p ∈ news₁, p.1 ≠ Lq → p ∈ (_ : Led).filter (fun q => q.1 ≠ I) := fun p hp hne => List.mem_filter.mpr ⟨hm2 p (by k_mem) hne, by simpa using hneI p hp⟩
    have hstep := div_step (A := x / 2 ^ (n * (k - i))) (d := d) (B := 2 ^ n) (show 0 < b by omega)
    have htop := top_step n x k i hin
    rw [hdd] at htop
    refine forS_end (qs ++ [(r * 2 ^ n + d) / b], (r * 2 ^ n + d) % b, tb) _ (by assumption) lN9 (hm2 (I, o) (by k_mem) hqI.symm) (fun p hp => ⟨(List.mem_filter.mp hp).1, by simpa using (List.mem_filter.mp hp).2⟩) (by kst_all) (by ksw_same)
      ⟨keep _ k1 hDq, ⟨_, _, List.mem_filter.mpr ⟨hm1, by simpa using hqI⟩, ?_⟩, ?_, Tabs.upd (news_sub N3 fun q hq => List.mem_cons_of_mem _ hq) k5 k2 keep, fun q hq hs => ⟨keep q (k6 q hq hs).1 (k6 q hq hs).2, (k6 q hq hs).2⟩, ?_, ?_⟩
    · have e9 : castL (qs ++ [(r * 2 ^ n + d) / b]) = castL qs ++ [(((r * 2 ^ n + d) / b : Nat) : Int)] := by simp [castL]
      show IntsAre _ (castL (qs ++ [(r * 2 ^ n + d) / b]))
      rw [e9]
      exact ints_append k3 (ints_one _ _)
    · show (qs ++ [(r * 2 ^ n + d) / b]).length = i + 1
      simp; omega
    · show valD n (qs ++ [(r * 2 ^ n + d) / b]).reverse = _
      rw [List.reverse_append, htop, hstep.1, ← k8]
      show (r * 2 ^ n + d) / b + 2 ^ n * valD n qs.reverse = _
      rw [k7, Nat.mul_comm (2 ^ n), Nat.add_comm]
    · show (r * 2 ^ n + d) % b = _
      rw [htop, hstep.2, ← k8]
  case done =>
    rintro ⟨qs, r, tr⟩ u news₁ h tk ⟨k1, ⟨uq, e, k2, k3⟩, k4, k5, k6, k7, k8⟩ F3 N3
    dsimp only at k3 k4 k7 k8 F3
    dsimp only [kstB] at F3
    have hqlen : uq.length = qs.length := by rw [k3.length]; simp
    rw [hlen] at k4 k7 k8
    rw [Nat.sub_self, Nat.mul_zero, Nat.pow_zero, Nat.div_one] at k7 k8
    repeat' (first | (k_unfold; (try dsimp only); repeat (first | clear ek | clear qk)) | ((fail_if_success (with_reducible show wpAny _ _ (exec (Stmt.While _ _ _ _) _) _ _ _)); (fail_if_success (with_reducible show wpAny _ _ (exec (Stmt.For _ _ _ _ _) _) _ _ _)); (fail_if_success (with_reducible show wpAny _ _ (exec (Stmt.FunctionDef _ _ _ _ _ _ _ _ _ _) _) _ _ _)); (fail_if_success (with_reducible show wpAny _ _ (call (Value.ref _) _) _ _ _)); first | ((first | (with_reducible show wpAny _ _ (exec _ _) _ _ _) | ((with_reducible show wpAny _ _ (eval _ _) _ _ _); (fail_if_success (with_reducible show wpAny _ _ (eval (PySem.Expr.Name _ _) _) _ _ _)); (fail_if_success (with_reducible show wpAny _ _ (eval (PySem.Expr.Constant _ _ _) _) _ _ _)); skip)); k_fold) | (with_reducible (show wpAny _ _ (binaryOp Operator.Add (Value.int _ _) (Value.int _ _)) _ _ _; k_here; (refine my_add ?_); intro _ _ _)) | (with_reducible (show wpAny _ _ (binaryOp Operator.LShift (Value.int _ _) (Value.int _ _)) _ _ _; k_here; (refine my_shlN (by omega) (by omega) ?_); intro _)) | (with_reducible (show wpAny _ _ (call (Value.builtin "list.append") _) _ _ _; k_here; k_dflt (refine' my_append ?ok1 ?ok2 ?ok3 ?ok4 ?_; (case ok1 => k_asm); (case ok2 => k_asm); (case ok3 => k_mem); (case ok4 => omega); k_whole); intro _ _ _ _ _ _ _)) | (with_reducible (show wpAny _ _ (call (Value.builtin "list.reverse") _) _ _ _; k_here; k_dflt (refine' my_reverse ?ok1 ?ok2 ?ok3 ?ok4 ?_; (case ok1 => k_asm); (case ok2 => k_asm); (case ok3 => k_mem); (case ok4 => omega); k_whole); intro _ _ _ _ _ _ _)) | walk1 | (dsimp only; walk1)))
    rename ∀ p, p ∈ _ → Prod.fst p ≠ Lq → p ∈ _ => hm3
    revert hm3
    rename ∀ p, p ∈ _ → Prod.fst p ≠ Lq → p ∈ _ => hm2
    rename (Lq, W.listOf _ _) ∈ _ => hm1
    intro hm3
    have hT2 := Tabs.upd N3 k5 k2 hm2
    have hi9 : IntsAre uq.reverse (castL qs.reverse) := by
      have := ints_reverse k3
      rwa [show (castL qs).reverse = castL qs.reverse from (List.map_reverse ..).symm] at this
    refine Spec.use (digits2int_spec w Lq n e _ uq.reverse qs.reverse hi9 (by simp; omega) ?_ hbn.1 hbn.2) (by k_asm) (by k_asm) (by k_asm) (by k_asm) (by k_asm) rfl (by ktr_room) (by ktr_units) ⟨hT2, hm1⟩ ?_
    · rw [k7]
      exact Nat.lt_of_le_of_lt (Nat.div_le_self _ _) hx
    rintro r9 news9 h9 tk9 F9 N9 ⟨⟨t9, rfl⟩, hkept9⟩
    rw [k7]
    rw [k8] at F9
    repeat' (first | (k_unfold; (try dsimp only); repeat (first | clear ek | clear qk)) | ((fail_if_success (with_reducible show wpAny _ _ (exec (Stmt.While _ _ _ _) _) _ _ _)); (fail_if_success (with_reducible show wpAny _ _ (exec (Stmt.For _ _ _ _ _) _) _ _ _)); (fail_if_success (with_reducible show wpAny _ _ (exec (Stmt.FunctionDef _ _ _ _ _ _ _ _ _ _) _) _ _ _)); (fail_if_success (with_reducible show wpAny _ _ (call (Value.ref _) _) _ _ _)); first | ((first | (with_reducible show wpAny _ _ (exec _ _) _ _ _) | ((with_reducible show wpAny _ _ (eval _ _) _ _ _); (fail_if_success (with_reducible show wpAny _ _ (eval (PySem.Expr.Name _ _) _) _ _ _)); (fail_if_success (with_reducible show wpAny _ _ (eval (PySem.Expr.Constant _ _ _) _) _ _ _)); skip)); k_fold) | (with_reducible (show wpAny _ _ (binaryOp Operator.Add (Value.int _ _) (Value.int _ _)) _ _ _; k_here; (refine my_add ?_); intro _ _ _)) | (with_reducible (show wpAny _ _ (binaryOp Operator.LShift (Value.int _ _) (Value.int _ _)) _ _ _; k_here; (refine my_shlN (by omega) (by omega) ?_); intro _)) | (with_reducible (show wpAny _ _ (call (Value.builtin "list.append") _) _ _ _; k_here; k_dflt (refine' my_append ?ok1 ?ok2 ?ok3 ?ok4 ?_; (case ok1 => k_asm); (case ok2 => k_asm); (case ok3 => k_mem); (case ok4 => omega); k_whole); intro _ _ _ _ _ _ _)) | (with_reducible (show wpAny _ _ (call (Value.builtin "list.reverse") _) _ _ _; k_here; k_dflt (refine' my_reverse ?ok1 ?ok2 ?ok3 ?ok4 ?_; (case ok1 => k_asm); (case ok2 => k_asm); (case ok3 => k_mem); (case ok4 => omega); k_whole); intro _ _ _ _ _ _ _)) | walk1 | (dsimp only; walk1)))
    refine hret _ _ _ _ (by assumption) (by assumption) ⟨_, _, _, rfl, List.mem_cons_self, hkept9.1.sub fun q hq => List.mem_cons_of_mem _ hq, fun q hq hs => List.mem_cons_of_mem _ (hkept9.2 q (hm2 q (k6 q hq hs).1 (k6 q hq hs).2) hs)⟩
end
section

theorem int_divmod_nn (w : World) (x b : Nat) (t1 t2 : Tok) (hx : x < 2 ^ 40) (hb : 1 ≤ b) (hb2 : b < 200) :
    Spec w 84 140 1500 [.int x t1, .int b t2] Tabs (fun news r news' => ∃ T ta tb, r = .ref T ∧ (T, tupOf [.int ((x / b : Nat) : Int) ta, .int ((x % b : Nat) : Int) tb]) ∈ news' ∧ Kept news news') := by
  unfold Spec
  k_fill
  intro p loose mean mg mb dp un gd cn cs a ccd cl outer A₀ base h₀ L m news s Q E B F X N T hk hd hu hpre hret
  refine wpAny_call ?_
  k_dflt ktr_enter
  repeat' (first | (k_unfold; (try dsimp only); repeat (first | clear ek | clear qk)) | ((fail_if_success (with_reducible show wpAny _ _ (exec (Stmt.While _ _ _ _) _) _ _ _)); (fail_if_success (with_reducible show wpAny _ _ (exec (Stmt.For _ _ _ _ _) _) _ _ _)); (fail_if_success (with_reducible show wpAny _ _ (exec (Stmt.FunctionDef _ _ _ _ _ _ _ _ _ _) _) _ _ _)); (fail_if_success (with_reducible show wpAny _ _ (call (Value.ref _) _) _ _ _)); first | ((with_reducible show wpAny _ _ (exec _ _) _ _ _); k_fold) | (with_reducible (show wpAny _ _ (binaryOp Operator.Add (Value.int _ _) (Value.int _ _)) _ _ _; k_here; (refine my_add ?_); intro _ _ _)) | walk1 | (dsimp only; walk1)))
  all_goals (try (exfalso; omega))
  refine Spec.use (divmod_pos_spec w x b _ _ hx hb hb2) (by k_asm) (by k_asm) (by k_asm) (by k_asm) (by k_asm) rfl (by ktr_room) (by ktr_units) hpre ?_
  rintro r news1 h1 tk1 F1 N1 ⟨D, ta, tb, rfl, hD, hkept⟩
  repeat' (first | (k_unfold; (try dsimp only); repeat (first | clear ek | clear qk)) | ((fail_if_success (with_reducible show wpAny _ _ (exec (Stmt.While _ _ _ _) _) _ _ _)); (fail_if_success (with_reducible show wpAny _ _ (exec (Stmt.For _ _ _ _ _) _) _ _ _)); (fail_if_success (with_reducible show wpAny _ _ (exec (Stmt.FunctionDef _ _ _ _ _ _ _ _ _ _) _) _ _ _)); (fail_if_success (with_reducible show wpAny _ _ (call (Value.ref _) _) _ _ _)); first | ((with_reducible show wpAny _ _ (exec _ _) _ _ _); k_fold) | (with_reducible (show wpAny _ _ (binaryOp Operator.Add (Value.int _ _) (Value.int _ _)) _ _ _; k_here; (refine my_add ?_); intro _ _ _)) | walk1 | (dsimp only; walk1)))
  exact hret _ _ _ _ (by assumption) (by assumption) ⟨D, ta, tb, rfl, hD, hkept⟩

theorem neg_divmod {x : Int} {y b : Nat} (hb : 1 ≤ b) (hy : -x - 1 = y) : x / b = Builtin.bitNot ((y / b : Nat) : Int) ∧ x % b = b + Builtin.bitNot ((y % b : Nat) : Int) := by
  have h1 := Nat.div_add_mod y b
  have h2 := Nat.mod_lt y (show b > 0 by omega)
  have h3 : ((y / b : Nat) : Int) * b + ((y % b : Nat) : Int) = y := by
    rw [Int.mul_comm]; exact_mod_cast h1
  refine (Int.ediv_emod_unique (by omega)).mpr ⟨?_, ?_, ?_⟩
  · unfold Builtin.bitNot
    rw [Int.mul_sub, Int.mul_neg, Int.mul_comm (b : Int) ((y / b : Nat) : Int)]
    omega
  · unfold Builtin.bitNot
    omega
  · unfold Builtin.bitNot
    omega

theorem int_divmod_spec (w : World) (x : Int) (b : Nat) (t1 t2 : Tok) (hx1 : -(2 ^ 39) < x) (hx2 : x < 2 ^ 39) (hb : 1 ≤ b) (hb2 : b < 200) :
    Spec w 84 160 1700 [.int x t1, .int b t2] Tabs (fun news r news' => ∃ T ta tb, r = .ref T ∧ (T, tupOf [.int (x / b) ta, .int (x % b) tb]) ∈ news' ∧ Kept news news') := by
  by_cases h0 : 0 ≤ x
  · obtain ⟨n, rfl⟩ : ∃ n : Nat, x = n := ⟨x.toNat, by omega⟩
    have := int_divmod_nn w n b t1 t2 (by omega) hb hb2
    intro p loose mean mg mb dp un gd cn cs a ccd cl outer A₀ base h₀ L m news s Q E B F X N T hk hd hu hpre hret
    refine this p loose mean mg mb dp un gd cn cs a ccd cl outer A₀ base h₀ L m news s Q E B F X N T hk (by omega) (by omega) hpre ?_
    rintro r news' h' tk' F' N' ⟨T', ta, tb, rfl, h1, h2⟩
    exact hret _ _ _ _ F' N' ⟨T', ta, tb, rfl, by push_cast at h1; exact h1, h2⟩
  · unfold Spec
    k_fill
    intro p loose mean mg mb dp un gd cn cs a ccd cl outer A₀ base h₀ L m news s Q E B F X N T hk hd hu hpre hret
    refine wpAny_call ?_
    k_dflt ktr_enter
    repeat' (first | (k_unfold; (try dsimp only); repeat (first | clear ek | clear qk)) | ((fail_if_success (with_reducible show wpAny _ _ (exec (Stmt.While _ _ _ _) _) _ _ _)); (fail_if_success (with_reducible show wpAny _ _ (exec (Stmt.For _ _ _ _ _) _) _ _ _)); (fail_if_success (with_reducible show wpAny _ _ (exec (Stmt.FunctionDef _ _ _ _ _ _ _ _ _ _) _) _ _ _)); (fail_if_success (with_reducible show wpAny _ _ (call (Value.ref _) _) _ _ _)); first | ((with_reducible show wpAny _ _ (exec _ _) _ _ _); k_fold) | (with_reducible (show wpAny _ _ (binaryOp Operator.Add (Value.int _ _) (Value.int _ _)) _ _ _; k_here; (refine my_add ?_); intro _ _ _)) | walk1 | (dsimp only; walk1)))
    all_goals (try (exfalso; omega))
    obtain ⟨y, hy⟩ : ∃ y : Nat, -x - 1 = y := ⟨(-x - 1).toNat, by omega⟩
    have e1 : Builtin.bitNot x = (y : Int) := hy
    rw [e1]
    refine Spec.use (int_divmod_nn w y b _ _ (by omega) hb hb2) (by k_asm) (by k_asm) (by k_asm) (by k_asm) (by k_asm) rfl (by ktr_room) (by ktr_units) hpre ?_
    rintro r news1 h1 tk1 F1 N1 ⟨D, ta, tb, rfl, hD, hkept⟩
    repeat' (first | (k_unfold; (try dsimp only); repeat (first | clear ek | clear qk)) | ((fail_if_success (with_reducible show wpAny _ _ (exec (Stmt.While _ _ _ _) _) _ _ _)); (fail_if_success (with_reducible show wpAny _ _ (exec (Stmt.For _ _ _ _ _) _) _ _ _)); (fail_if_success (with_reducible show wpAny _ _ (exec (Stmt.FunctionDef _ _ _ _ _ _ _ _ _ _) _) _ _ _)); (fail_if_success (with_reducible show wpAny _ _ (call (Value.ref _) _) _ _ _)); first | ((with_reducible show wpAny _ _ (exec _ _) _ _ _); k_fold) | (with_reducible (show wpAny _ _ (binaryOp Operator.Add (Value.int _ _) (Value.int _ _)) _ _ _; k_here; (refine my_add ?_); intro _ _ _)) | walk1 | (dsimp only; walk1)))
    rename _ = _ + _ => hv
    obtain ⟨e2, e3⟩ := neg_divmod hb hy
    rw [← e3] at hv
    subst hv
    rename News h₀ L _ _ => kN
    rw [← e2] at kN
    exact hret _ _ _ _ (by assumption) kN ⟨_, _, _, rfl, List.mem_cons_self, hkept.1.sub fun q hq => List.mem_cons_of_mem _ hq, fun q hq hs => List.mem_cons_of_mem _ (hkept.2 q hq hs)⟩
end
section

/-- an object that bears a namespace (the library's word) -/
abbrev NsObj (o : Obj) (m : Str → Option Value) : Prop := LCg.NsObj o m
theorem NsObj.at {h : Heap} {a : Addr} {o : Obj} {m : Str → Option Value} (n : NsObj o m) (e : h.get? a = some o) : h.Ns a m := let ⟨es, ep, r⟩ := n; ⟨o, es, ep, e, r⟩
theorem NsObj.of {h : Heap} {a : Addr} {m : Str → Option Value} (n : h.Ns a m) : ∃ o, h.get? a = some o ∧ NsObj o m := let ⟨o, es, ep, e, r⟩ := n; ⟨o, e, es, ep, r⟩
theorem NsObj.solid {o : Obj} {m : Str → Option Value} (n : NsObj o m) : Solid o := .of_data fun vs e => by obtain ⟨es, ep, e2, _⟩ := n; rw [e] at e2; cases e2

/-- neither a code table nor a code -/
def Plain (o : Obj) : Prop := Solid o ∧ ∀ vs q t, o.data = .fields vs → vs[1]? ≠ some (.str q t)
/-- a comprehension's turn is through -/
def CompEnd (h₀ : Heap) (L : Addr) (m : Str → Option Value) (C D I : Addr × Obj) (Inv : Led → Prop) (s s' : Shared) : Prop :=
  ∃ h' tk led news', s' = { s with heap := h', toks := tk } ∧ Fr h₀ L h' m ∧ News h₀ L h' led ∧ C ∈ led ∧ D ∈ led ∧ I ∈ led ∧ (∀ p ∈ news', p ∈ led ∧ p.1 ≠ C.1 ∧ p.1 ≠ D.1 ∧ p.1 ≠ I.1) ∧ Inv news'

section
variable {prog : Program} {w : World} {A : Around} {E : Value → Shared → Prop} {s : Shared} {h₀ : Heap} {L : Addr} {m : Str → Option Value} {env : Env}
theorem comp_core {elt iter : Expr} {x : Str} {px : Pos} {ifs : List Expr} {scope : Scope} {cl : List (Str × Addr)} {pos : Pos} {I : Addr} {fp : List Addr} {n : Nat} {P : Nat → Value → Prop} {St : Nat → Heap → Prop} {o0 : Obj} {news src : Led}
    {RR : Value → Addr → Result → Shared → Prop} (Inv : Nat → List Value → Led → Prop) (W : Walks prog w A I fp [I] n P St) (hsz : n < 1000)
    (hcell : ∀ y ∈ scope.names, y.2 ≠ .cell) (hkind : scope.kind = .function) (hx : scope.names.lookup x = some .local) (hst : St 0 s.heap)
    (hIo : ∀ i h, St i h → ∃ o, h.get? I = some o ∧ Plain o) (hfp : ∀ b ∈ fp, b = I ∨ ∃ o, (b, o) ∈ src) (hsrc : ∀ i its led, Inv i its led → ∀ p ∈ src, p ∈ led)
    (F : Fr h₀ L s.heap m) (N : News h₀ L s.heap ((I, o0) :: news)) (hnI : ∀ p ∈ news, p.1 ≠ I) (h0 : Inv 0 [] news)
    (turn : ∀ i v its led h tk C oC D e o mC E', i < n → P i v → Inv i its led → its.length ≤ i → Fr h₀ L h m → News h₀ L h ((C, oC) :: (D, listOf its.toArray e) :: (I, o) :: led) → NsObj oC mC → mC x = some v →
      (∀ p ∈ led, p.1 ≠ C ∧ p.1 ≠ D ∧ p.1 ≠ I) → C ≠ D → C ≠ I → D ≠ I → Plain o →
      wpAny (model prog w) A (forIn ifs true fun c r => if r = true then do let ok ← isTrue c (compEnvC scope cl C env) (eval c (compEnvC scope cl C env)); pure (ForInStep.yield ok) else pure (ForInStep.yield r))
        (fun ok s₁ => if ok = true then wpAny (model prog w) A (eval elt (compEnvC scope cl C env)) (fun y s₂ => CompEnd h₀ L m (C, oC) (D, listOf its.toArray e) (I, o) (Inv (i + 1) (its ++ [y])) s s₂) E' s₁
          else CompEnd h₀ L m (C, oC) (D, listOf its.toArray e) (I, o) (Inv (i + 1) its) s s₁) E' { s with heap := h, toks := tk })
    (done : ∀ its led h tk C oC D e mC, Inv n its led → Fr h₀ L h m → News h₀ L h ((C, oC) :: (D, listOf its.toArray e) :: led) → NsObj oC mC → (∀ p ∈ led, p.1 ≠ C ∧ p.1 ≠ D) → C ≠ D → RR (.ref D) C (.ok .next) { s with heap := h, toks := tk }) :
    wpAny (model prog w) A (newList []) (fun acc s₃ => wpAny (model prog w) A (newFunctionEnv scope env.globals cl [] env.qual none .none (some env)) (fun cenv s₄ =>
      codeAny (model prog w) A (.compStart (.ListComp elt [⟨.Name x px, iter, ifs, 0⟩] scope pos) 0 (.ref I) acc { cenv with scope := relabel scope env }) (RR acc cenv.locals) s₄) E s₃) E s := by
  refine wpAny_newObj_type (wpAny_newFunctionEnv hcell (by intro y hy; simp at hy) (fun h₁ hns₁ hsb₁ => ?_) hkind)
  dsimp only at hns₁ hsb₁ ⊢
  generalize hH2 : s.heap.push { cls := .type "list", dict := none, data := .seq ([] : List Value).toArray } = H2 at hns₁ hsb₁ ⊢
  generalize hDe : s.heap.objs.size = D at *
  generalize hCe : H2.objs.size = C at *
  have hCD : C ≠ D := by rw [← hCe, ← hH2, Heap.size_push, hDe]; exact Nat.succ_ne_self _
  have hlt : ∀ b o, s.heap.get? b = some o → b ≠ C ∧ b ≠ D := fun b o e => by
    have := Heap.lt_size e
    rw [hDe] at this
    refine ⟨?_, Nat.ne_of_lt this⟩
    rw [← hCe, ← hH2, Heap.size_push, hDe]
    exact Nat.ne_of_lt (Nat.lt_succ_of_lt this)
  have old : ∀ b o, s.heap.get? b = some o → h₁.get? b = some o := fun b o e => hsb₁.extBut b o (hlt b o e).1 (Heap.get?_push_of_some _ (hH2 ▸ Heap.get?_push_of_some _ e))
  have hD₁ : h₁.get? D = some (listOf ([] : List Value).toArray 0) := hsb₁.extBut _ _ hCD.symm (Heap.get?_push_of_some _ (by rw [← hH2, ← hDe]; exact Heap.get?_push_size _ rfl))
  obtain ⟨oC₁, hC₁, nC₁⟩ := NsObj.of hns₁
  have hLD : D ≠ L := fun e => by
    have := F.ns.lt
    rw [hDe, e] at this
    exact Nat.lt_irrefl _ this
  have hLC : C ≠ L := fun e => by
    obtain ⟨oL, _, _, hL, _⟩ := F.ns
    exact (hlt _ _ hL).1 e.symm
  have fresh : ∀ b, D ≤ b → h₀.get? b = none := fun b hb => by
    cases q : h₀.get? b with
    | none => rfl
    | some o =>
      have := Heap.lt_size (F.keep _ _ q)
      rw [hDe] at this
      exact absurd this (Nat.not_lt.mpr hb)
  have hDC : D ≤ C := by rw [← hCe, ← hH2, Heap.size_push, hDe]; exact Nat.le_succ _
  have F₁ : Fr h₀ L h₁ m := ⟨by obtain ⟨oL, es, ep, hL, r⟩ := F.ns; exact ⟨oL, es, ep, old _ _ hL, r⟩, fun b o e => old _ _ (F.keep b o e), F.above⟩
  have N₁ : News h₀ L h₁ ((C, oC₁) :: (D, listOf ([] : List Value).toArray 0) :: (I, o0) :: news) := fun p hp => by
    rcases List.mem_cons.mp hp with rfl | hp
    · exact ⟨hC₁, hLC, fresh _ hDC⟩
    · rcases List.mem_cons.mp hp with rfl | hp
      · exact ⟨hD₁, hLD, fresh _ (Nat.le_refl _)⟩
      · exact ⟨old _ _ (N p hp).1, (N p hp).2⟩
  have hI0 := N _ (List.mem_cons_self ..)
  have sep₁ : ∀ p ∈ news, p.1 ≠ C ∧ p.1 ≠ D ∧ p.1 ≠ I := fun p hp => ⟨(hlt _ _ (N p (List.mem_cons_of_mem _ hp)).1).1, (hlt _ _ (N p (List.mem_cons_of_mem _ hp)).1).2, hnI p hp⟩
  have hCI : C ≠ I := (hlt _ _ hI0.1).1.symm
  have hDI : D ≠ I := (hlt _ _ hI0.1).2.symm
  have hIL : I ≠ L := hI0.2.1
  have hI₀ : h₀.get? I = none := hI0.2.2
  have stays : ∀ i h h' o, St i h → h.get? I = some o → h'.get? I = some o → (∀ p ∈ src, h.get? p.1 = some p.2) → (∀ p ∈ src, h'.get? p.1 = some p.2) → St i h' := fun i h h' o st h1 h2 hs hs' => by
    refine W.frame _ _ _ st fun b hb ob e => ?_
    rcases hfp b hb with rfl | ⟨o', ho'⟩
    · rw [e] at h1
      rw [h2, ← Option.some.inj h1]
    · have h3 := hs _ ho'
      have h4 := hs' _ ho'
      simp only at h3 h4
      rw [e] at h3
      rw [h4, ← Option.some.inj h3]
  have hst₁ : St 0 h₁ := stays 0 s.heap h₁ o0 hst hI0.1 (old _ _ hI0.1) (fun p hp => (N p (List.mem_cons_of_mem _ (hsrc _ _ _ h0 p hp))).1) fun p hp => old _ _ (N p (List.mem_cons_of_mem _ (hsrc _ _ _ h0 p hp))).1
  have loop : ∀ s₃ : Shared, s₃ = { s with heap := h₁, toks := s.toks + ([] : List (Str × Value)).length } →
      codeAny (model prog w) A (.compLoop (.ListComp elt [⟨.Name x px, iter, ifs, 0⟩] scope pos) 0 (.ref I) (.ref D) (compEnvC scope cl C env)) (RR (.ref D) C) s₃ := by
    rintro s₃ rfl
    refine codeAny_compLoop_tests (fun k s' => ∃ i its led h tk oC e o mC, s' = { s with heap := h, toks := tk } ∧ St i h ∧ Inv i its led ∧ its.length ≤ i ∧ Fr h₀ L h m ∧ News h₀ L h ((C, oC) :: (D, listOf its.toArray e) :: (I, o) :: led) ∧ NsObj oC mC ∧ (∀ p ∈ led, p.1 ≠ C ∧ p.1 ≠ D ∧ p.1 ≠ I) ∧ i ≤ n ∧ k = n + 1 - i) ?_ (n + 1)
      ⟨0, [], news, h₁, _, oC₁, 0, o0, _, rfl, hst₁, h0, Nat.le_refl _, F₁, N₁, nC₁, sep₁, Nat.zero_le _, rfl⟩
    rintro k s' ⟨i, its, led, h, tk, oC, e, o, mC, rfl, st, hv, hil, Fh, Nh, nC, sep, hin, rfl⟩
    have next : ∀ h' : Heap, (∀ b o, b ∉ [I] → h.get? b = some o → h'.get? b = some o) → Fr h₀ L h' m ∧ (∀ p ∈ (C, oC) :: (D, listOf its.toArray e) :: led, h'.get? p.1 = some p.2 ∧ p.1 ≠ L ∧ h₀.get? p.1 = none) := fun h' hk => by
      refine ⟨⟨by obtain ⟨oL, es, ep, hL, r⟩ := Fh.ns; exact ⟨oL, es, ep, hk _ _ (by simpa using hIL.symm) hL, r⟩, fun b ob eb => hk b ob (fun q => by rw [List.mem_singleton.mp q, hI₀] at eb; cases eb) (Fh.keep b ob eb), Fh.above⟩, fun p hp => ?_⟩
      have hp' : p ∈ (C, oC) :: (D, listOf its.toArray e) :: (I, o) :: led := by
        simp only [List.mem_cons] at hp ⊢
        rcases hp with h | h | h <;> simp [h]
      have hpI : p.1 ≠ I := by
        rcases List.mem_cons.mp hp with rfl | hp
        · exact hCI
        · rcases List.mem_cons.mp hp with rfl | hp
          · exact hDI
          · exact (sep p hp).2.2
      exact ⟨hk _ _ (by simpa using hpI) (Nh p hp').1, (Nh p hp').2⟩
    by_cases hlt : i < n
    · refine W.item i _ _ _ hlt st fun v h' tk' hP st' hk => ?_
      obtain ⟨o', ho', hso'⟩ := hIo _ _ st'
      obtain ⟨F', NN⟩ := next h' hk
      refine wpAny_assign_Name (wpAny_storeName_local (lookup_relabel_local hx) (nC.at (NN _ (List.mem_cons_self ..)).1) (fun h₂ hn₂ hs₂ => ?_) (by simp [compEnvC, relabel, hkind]))
      obtain ⟨oC2, hC2, nC2⟩ := NsObj.of hn₂
      have F2 : Fr h₀ L h₂ m := ⟨by obtain ⟨oL, es, ep, hL, r⟩ := F'.ns; exact ⟨oL, es, ep, (hs₂.2 _ hLC.symm).trans hL, r⟩, fun b ob eb => (hs₂.2 b (fun q => by subst q; rw [fresh _ hDC] at eb; cases eb)).trans (F'.keep b ob eb), F'.above⟩
      have N2 : News h₀ L h₂ ((C, oC2) :: (D, listOf its.toArray e) :: (I, o') :: led) := fun p hp => by
        rcases List.mem_cons.mp hp with rfl | hp
        · exact ⟨hC2, hLC, fresh _ hDC⟩
        · rcases List.mem_cons.mp hp with rfl | hp
          · have z := NN (D, listOf its.toArray e) (List.mem_cons_of_mem _ (List.mem_cons_self ..))
            exact ⟨(hs₂.2 _ hCD.symm).trans z.1, z.2⟩
          · rcases List.mem_cons.mp hp with rfl | hp
            · exact ⟨(hs₂.2 _ hCI.symm).trans ho', hIL, hI₀⟩
            · have z := NN p (List.mem_cons_of_mem _ (List.mem_cons_of_mem _ hp))
              exact ⟨(hs₂.2 _ (sep p hp).1).trans z.1, z.2⟩
      have again : ∀ (its' : List Value) (e' : Nat) (h3 : Heap) (tk3 : Nat) (news' : Led), its'.length ≤ i + 1 → Inv (i + 1) its' news' → Fr h₀ L h3 m → News h₀ L h3 ((C, oC2) :: (D, listOf its'.toArray e') :: (I, o') :: news') → (∀ p ∈ news', p.1 ≠ C ∧ p.1 ≠ D ∧ p.1 ≠ I) →
          ∃ k, k < n + 1 - i ∧ ∃ i its led h tk oC e o mC, ({ s with heap := h3, toks := tk3 } : Shared) = { s with heap := h, toks := tk } ∧ St i h ∧ Inv i its led ∧ its.length ≤ i ∧ Fr h₀ L h m ∧ News h₀ L h ((C, oC) :: (D, listOf (List.toArray its) e) :: (I, o) :: led) ∧ NsObj oC mC ∧ (∀ p ∈ led, p.1 ≠ C ∧ p.1 ≠ D ∧ p.1 ≠ I) ∧ i ≤ n ∧ k = n + 1 - i :=
        fun its' e' h3 tk3 news' hl hv' F3 N3 sep3 => ⟨n + 1 - (i + 1), by omega, i + 1, its', news', h3, tk3, oC2, e', o', _, rfl,
          stays (i + 1) h' h3 o' st' ho' (N3 (I, o') (by simp)).1 (fun p hp => (NN p (List.mem_cons_of_mem _ (List.mem_cons_of_mem _ (hsrc _ _ _ hv p hp)))).1) (fun p hp => (N3 p (by simp [hsrc _ _ _ hv' p hp])).1), hv', hl, F3, N3, nC2, sep3, hlt, rfl⟩
      refine wpAny_mono (turn i v its led h₂ _ C oC2 D e o' _ _ hlt hP hv hil F2 N2 nC2 (by simp) sep hCD hCI hDI hso') (fun ok s₁ h₁ => ?_) fun _ _ x => x
      cases ok with
      | false =>
        simp only [Bool.false_eq_true, if_false] at h₁ ⊢
        obtain ⟨h3, tk3, led3, news', rfl, F3, N3, c1, c2, c3, sub, inv'⟩ := h₁
        refine again its e h3 tk3 news' (by omega) inv' F3 (news_sub N3 fun p hp => ?_) fun p hp => (sub p hp).2
        simp only [List.mem_cons] at hp
        rcases hp with rfl | rfl | rfl | hp
        · exact c1
        · exact c2
        · exact c3
        · exact (sub p hp).1
      | true =>
        simp only [if_true] at h₁ ⊢
        refine wpAny_mono h₁ (fun y s₂ h₂ => ?_) fun _ _ x => x
        obtain ⟨h3, tk3, led3, news', rfl, F3, N3, c1, c2, c3, sub, inv'⟩ := h₂
        refine my_append F3 N3 c2 (by omega) fun h4 led4 F4 N4 a1 a2 a3 => ?_
        refine again (its ++ [y]) (e + 1) h4 tk3 news' (by simp; omega) inv' F4 (news_sub N4 fun p hp => ?_) fun p hp => (sub p hp).2
        simp only [List.mem_cons] at hp
        rcases hp with rfl | rfl | rfl | hp
        · exact a2 _ c1 hCD
        · exact a1
        · exact a2 _ c3 hDI.symm
        · exact a2 _ (sub p hp).1 (sub p hp).2.2.1
    · have hin' : i = n := by omega
      subst hin'
      refine W.done _ _ _ st fun h' tk' hk => ?_
      obtain ⟨F', NN⟩ := next h' hk
      exact done its led h' tk' C oC D e mC hv F' (fun p hp => NN p hp) nC (fun p hp => ⟨(sep p hp).1, (sep p hp).2.1⟩) hCD
  exact codeAny_compStart_list (loop _ rfl) (W.self 0 _ _ _ hst₁ (loop _ rfl))
end
end
section

section
variable {M : Model} {A : Around} {E : Value → Shared → Prop} {s : Shared} {h₀ : Heap} {L C c : Addr} {led : Led} {scope : Scope} {cl : List (Str × Addr)} {env : Env} {x : Str} {pos : Pos} {v : Value} {oC o : Obj} {m mC mg mb : Str → Option Value} {Q : Value → Shared → Prop}
  {K : Frag} {p : Program} {loose : List Str} {mean : ExcName → Option Value}
theorem ce_local (N : News h₀ L s.heap led) (hm : (C, oC) ∈ led) (nC : NsObj oC mC) (hv : mC x = some v) (h : Q v s) (hk : (compEnvC scope cl C env).scope.kind = .function := by rfl)
    (hl : (compEnvC scope cl C env).kindOf x = some .local := by rfl) (hd : (x == ("__debug__" : Str)) = false := by decide) : wpAny M A (eval (.Name x pos) (compEnvC scope cl C env)) Q E s :=
  wpAny_Name (wpAny_loadName_local hk hl (nC.at (N _ hm).1) hv h) hd
theorem ce_cell (N : News h₀ L s.heap led) (hc : cl.lookup x = some c) (hm : (c, o) ∈ led) (ho : o.data = .cell (some v)) (h : Q v s) (hk : (compEnvC scope cl C env).scope.kind = .function := by rfl)
    (hl : (compEnvC scope cl C env).kindOf x = some .cell := by rfl) (hd : (x == ("__debug__" : Str)) = false := by decide) : wpAny M A (eval (.Name x pos) (compEnvC scope cl C env)) Q E s :=
  wpAny_Name (wpAny_loadName_cell hk hl hc ⟨o, (N _ hm).1, ho⟩ h) hd
theorem ce_K (F : Fr h₀ L s.heap m) (X : K.In h₀) (T : Top p loose mean mg mb h₀) (e : nsIn K mainGlobals x = some (some v)) (h : Q v s) (hg : (compEnvC scope cl C env).globals = mainGlobals := by rfl) (hk : (compEnvC scope cl C env).scope.kind = .function := by rfl)
    (hx : (compEnvC scope cl C env).kindOf x = some .globalImplicit := by rfl) (hd : (x == ("__debug__" : Str)) = false := by decide) : wpAny M A (eval (.Name x pos) (compEnvC scope cl C env)) Q E s :=
  nameG_K F X (topRead_of T) e h hg hk hx hd
theorem ce_B (F : Fr h₀ L s.heap m) (X : K.In h₀) (T : Top p loose mean mg mb h₀) (e : nsIn K mainGlobals x = some none) (hv : bootBuiltins x = some v) (hn : x ≠ "__name__") (h : Q v s) (hg : (compEnvC scope cl C env).globals = mainGlobals := by rfl)
    (hb : (compEnvC scope cl C env).builtins = builtinsNs := by rfl) (hk : (compEnvC scope cl C env).scope.kind = .function := by rfl)
    (hx : (compEnvC scope cl C env).kindOf x = some .globalImplicit := by rfl) (hd : (x == ("__debug__" : Str)) = false := by decide) : wpAny M A (eval (.Name x pos) (compEnvC scope cl C env)) Q E s :=
  PySem.Calls.Name_function_global hk hx (PySem.Calls.loadGlobal_builtin (by rw [hg]; exact T.g.keeps F.keep) (mg_none_of X T.g e) (by rw [hb]; exact T.b.keeps F.keep) ((T.builtins x hn).trans hv) h) hd
end

/-- what stands behind a comprehension's loop, by kind of use -/
abbrev CompTree (prog : Program) (w : World) (A : Around) (E : Value → Shared → Prop) (env : Env) (elt iter : Expr) (x : Str) (px : Pos) (ifs : List Expr) (scope : Scope) (cl : List (Str × Addr)) (pos : Pos) (RR : Value → Addr → Result → Shared → Prop) (it : Value) (s₂ : Shared) : Prop :=
  wpAny (model prog w) A (newList []) (fun acc s₃ => wpAny (model prog w) A (newFunctionEnv scope env.globals cl [] env.qual none .none (some env)) (fun cenv s₄ =>
      codeAny (model prog w) A (.compStart (.ListComp elt [⟨.Name x px, iter, ifs, 0⟩] scope pos) 0 it acc { cenv with scope := relabel scope env }) (RR acc cenv.locals) s₄) E s₃) E s₂

section
variable {prog : Program} {w : World} {A : Around} {E : Value → Shared → Prop} {s : Shared} {h₀ : Heap} {L : Addr} {m : Str → Option Value} {env : Env} {elt iter : Expr} {x : Str} {px : Pos} {ifs : List Expr} {scope : Scope} {cl : List (Str × Addr)} {pos : Pos} {led : Led}
/-- a ListComp as a value -/
theorem comp_eval {Q : Value → Shared → Prop} (hclos : closureFor scope env = pure cl) (hkind : scope.kind = .function) (hnames : ∀ y ∈ scope.names, y.2 = .local → scope.names.lookup y.1 = some .local)
    (h : wpAny (model prog w) A (eval iter env) (fun xv s₁ => wpAny (model prog w) A (pyIter xv) (fun it s₂ => CompTree prog w A E env elt iter x px ifs scope cl pos (fun acc C => compPost (model prog w) A E none Q acc C) it s₂) E s₁) E s)
    (hs : ∀ x, foldedSetIterable iter env x = pure x := by intro _; rfl) : wpAny (model prog w) A (eval (.ListComp elt [⟨.Name x px, iter, ifs, 0⟩] scope pos) env) Q E s := by
  rw [eval_ListComp]
  exact wpAny_comprehension_free (use := none) rfl hs hclos hkind hnames h
/-- y = [.. for x in ..] -/
theorem comp_assign {y : Str} {py spos : Pos} {Q : Flow → Shared → Prop} (hsw : swapsWith (.ListComp elt [⟨.Name x px, iter, ifs, 0⟩] scope pos) (some (.Name y py)) spos.line env = pure true)
    (hclos : closureFor scope env = pure cl) (hkind : scope.kind = .function) (hnames : ∀ y ∈ scope.names, y.2 = .local → scope.names.lookup y.1 = some .local)
    (h : wpAny (model prog w) A (eval iter env) (fun xv s₁ => wpAny (model prog w) A (pyIter xv) (fun it s₂ => CompTree prog w A E env elt iter x px ifs scope cl pos (fun acc C => compPost (model prog w) A E (some (assign (.Name y py) env)) (fun _ s' => Q .next s') acc C) it s₂) E s₁) E s)
    (hs : ∀ x, foldedSetIterable iter env x = pure x := by intro _; rfl) : wpAny (model prog w) A (exec (.Assign [.Name y py] (.ListComp elt [⟨.Name x px, iter, ifs, 0⟩] scope pos) spos) env) Q E s := by
  rw [exec_Assign_Name_used _ _ _ _ hsw]
  refine wpAny_bind (wpAny_standAt (wpAny_bind ?_))
  show wpAny _ A (do let _ ← comprehension (.ListComp elt [⟨.Name x px, iter, ifs, 0⟩] scope pos) scope env _ (newList []) false (eval iter env) (some (assign (.Name y py) env))) _ _ s
  exact wpAny_bind (wpAny_mono (wpAny_comprehension_free (use := some (assign (.Name y py) env)) (Q := fun _ s' => Q .next s') rfl hs hclos hkind hnames h) (fun _ s' hq => wpAny_pure (wpAny_pure hq)) fun _ _ e => e)

/-- the end of a comprehension as a value -/
theorem comp_none {Q : Value → Shared → Prop} {D C : Addr} {oC : Obj} {mC : Str → Option Value} {its : Array Value} {e : Nat} (F : Fr h₀ L s.heap m) (N : News h₀ L s.heap ((C, oC) :: (D, listOf its e) :: led)) (nC : NsObj oC mC) (sep : ∀ p ∈ led, p.1 ≠ C ∧ p.1 ≠ D) (hCD : C ≠ D)
    (h : ∀ h', Fr h₀ L h' m → News h₀ L h' ((D, listOf its e) :: led) → (∀ p ∈ led, p.1 ≠ D) → Q (.ref D) { s with heap := h' }) : compPost (model prog w) A E none Q (.ref D) C (.ok .next) s := by
  have zC := N _ (List.mem_cons_self ..)
  refine ⟨mC, nC.at zC.1, fun h' hs => h h' ?_ (fun p hp => ?_) fun p hp => (sep p hp).2⟩
  · refine ⟨by obtain ⟨oL, es, ep, hL, r⟩ := F.ns; exact ⟨oL, es, ep, (hs.2 _ zC.2.1.symm).trans hL, r⟩, fun b ob eb => (hs.2 b (fun q => by subst q; rw [zC.2.2] at eb; cases eb)).trans (F.keep b ob eb), F.above⟩
  · have hp' := N p (List.mem_cons_of_mem _ hp)
    have hpC : p.1 ≠ C := by
      rcases List.mem_cons.mp hp with rfl | hp
      · exact hCD.symm
      · exact (sep p hp).1
    exact ⟨(hs.2 _ hpC).trans hp'.1, hp'.2⟩
/-- the end of y = [..] -/
theorem comp_some {Q0 : Shared → Prop} {y : Str} {py : Pos} {D C : Addr} {oC : Obj} {mC : Str → Option Value} {its : Array Value} {e : Nat} (hL : env.locals = L) (F : Fr h₀ L s.heap m) (N : News h₀ L s.heap ((C, oC) :: (D, listOf its e) :: led)) (nC : NsObj oC mC)
    (sep : ∀ p ∈ led, p.1 ≠ C ∧ p.1 ≠ D) (hCD : C ≠ D) (hy : env.kindOf y = some .local) (hp : (env.scope.kind == .class || (env.scope.kind == .module && env.locals != env.globals)) = false)
    (h : ∀ h', Fr h₀ L h' (fun z => if z = y then some (.ref D) else m z) → News h₀ L h' ((D, listOf its e) :: led) → (∀ p ∈ led, p.1 ≠ D) → Q0 { s with heap := h', toks := s.toks + 1 }) :
    compPost (model prog w) A E (some (assign (.Name y py) env)) (fun _ s' => Q0 s') (.ref D) C (.ok .next) s := by
  have zC := N _ (List.mem_cons_self ..)
  subst hL
  show wpAny _ A (assign (.Name y py) env (.ref D)) _ _ _
  refine wpAny_assign_Name (wpAny_storeName_local hy F.ns (fun h₂ hn₂ hs₂ => ?_) hp)
  have F2 := F.set hn₂ hs₂
  have N2 := N.set hs₂
  have := comp_none (prog := prog) (w := w) (A := A) (E := E) (s := { s with heap := h₂, toks := s.toks + 1 }) (Q := fun _ s' => Q0 s') F2 N2 nC sep hCD h
  exact this
end

section
variable {prog : Program} {w : World} {A : Around} {E : Value → Shared → Prop} {s : Shared} {h₀ : Heap} {L : Addr} {m : Str → Option Value} {env : Env} {elt iter : Expr} {x : Str} {px : Pos} {ifs : List Expr} {scope : Scope} {cl : List (Str × Addr)} {pos : Pos} {news : Led} {RR : Value → Addr → Result → Shared → Prop}
/-- what a turn of a comprehension must show -/
abbrev CompTurn (prog : Program) (w : World) (A : Around) (h₀ : Heap) (L : Addr) (m : Str → Option Value) (env : Env) (elt : Expr) (x : Str) (ifs : List Expr) (scope : Scope) (cl : List (Str × Addr)) (Inv : Nat → List Value → Led → Prop) (s : Shared) (n : Nat) (P : Nat → Value → Prop) : Prop :=
  ∀ (I : Addr) i v its led h tk C oC D e o mC E', i < n → P i v → Inv i its led → its.length ≤ i → Fr h₀ L h m → News h₀ L h ((C, oC) :: (D, listOf (List.toArray its) e) :: (I, o) :: led) → NsObj oC mC → mC x = some v →
      (∀ p ∈ led, p.1 ≠ C ∧ p.1 ≠ D ∧ p.1 ≠ I) → C ≠ D → C ≠ I → D ≠ I → Plain o →
      wpAny (model prog w) A (forIn ifs true fun c r => if r = true then do let ok ← isTrue c (compEnvC scope cl C env) (eval c (compEnvC scope cl C env)); pure (ForInStep.yield ok) else pure (ForInStep.yield r))
        (fun ok s₁ => if ok = true then wpAny (model prog w) A (eval elt (compEnvC scope cl C env)) (fun y s₂ => CompEnd h₀ L m (C, oC) (D, listOf its.toArray e) (I, o) (Inv (i + 1) (its ++ [y])) s s₂) E' s₁
          else CompEnd h₀ L m (C, oC) (D, listOf its.toArray e) (I, o) (Inv (i + 1) its) s s₁) E' { s with heap := h, toks := tk }
abbrev CompDone (h₀ : Heap) (L : Addr) (m : Str → Option Value) (Inv : Nat → List Value → Led → Prop) (s : Shared) (n : Nat) (RR : Value → Addr → Result → Shared → Prop) : Prop :=
  ∀ its led h tk C oC D e mC, Inv n its led → Fr h₀ L h m → News h₀ L h ((C, oC) :: (D, listOf (List.toArray its) e) :: led) → NsObj oC mC → (∀ p ∈ led, p.1 ≠ C ∧ p.1 ≠ D) → C ≠ D → RR (.ref D) C (.ok .next) { s with heap := h, toks := tk }

/-- over range(a, b) -/
theorem comp_range {r : Addr} {a b : Int} {t u v : Tok} (Inv : Nat → List Value → Led → Prop) (hh : A.handled = none) (hr : (r, rangeObj a b 1 t u v) ∈ news) (ha : -(2 ^ 40) < a) (hab : a ≤ b) (hb : b - a < 1000) (hb2 : b < 2 ^ 40)
    (hcell : ∀ y ∈ scope.names, y.2 ≠ .cell) (hkind : scope.kind = .function) (hx : scope.names.lookup x = some .local) (F : Fr h₀ L s.heap m) (N : News h₀ L s.heap news) (h0 : Inv 0 [] news)
    (turn : CompTurn prog w A h₀ L m env elt x ifs scope cl Inv s (b - a).toNat (fun i v => ∃ t, v = .int (a + i) t)) (done : CompDone h₀ L m Inv s (b - a).toNat RR) :
    wpAny (model prog w) A (pyIter (.ref r)) (fun it s₂ => CompTree prog w A E env elt iter x px ifs scope cl pos RR it s₂) E s := by
  refine wpAny_pyIter_range (N _ hr).1 (small_one (by omega) (by omega) (by omega) (by omega)) ?_
  have hn : Builtin.Range.rangeSize a b 1 = ((b - a).toNat : Int) := by rw [rangeSize_one]; split <;> omega
  rw [hn]
  have W := Walks.range (prog := prog) (w := w) hh s.heap.objs.size a 1 (b - a).toNat
  refine comp_core (src := []) (I := s.heap.objs.size) (o0 := rangeIt a ((b - a).toNat : Int) 1) Inv W (by omega) hcell hkind hx ?_ (fun i h st => ⟨_, st, .of_cls (by nofun), fun vs q t h e => by injection h with h; subst h; cases e⟩) (fun b hb => .inl (List.mem_singleton.mp hb)) (fun _ _ _ _ _ hp => nomatch hp) (F.push _) (News.push F N _)
    (fun p hp => Nat.ne_of_lt (Heap.lt_size (N p hp).1)) h0 ?_ done
  · have := Heap.get?_push_size s.heap (o := rangeIt a ((b - a).toNat : Int) 1) rfl
    simpa using this
  · rintro i v its led h tk C oC D e o mC E' hi ⟨tv, rfl⟩ hv hl F' N' nC hmx sep c1 c2 c3 hso
    have e9 : a + (i : Int) * 1 = a + i := by omega
    rw [e9] at hmx
    obtain ⟨sh, sg, sd, st, so⟩ := s
    exact turn _ i _ its led h tk C oC D e o mC E' hi ⟨tv, rfl⟩ hv hl F' N' nC hmx sep c1 c2 c3 hso
/-- over a tuple -/
theorem comp_tuple {r : Addr} {vs : List Value} (Inv : Nat → List Value → Led → Prop) (hh : A.handled = none) (hr : (r, tupOf vs) ∈ news) (hsz : vs.length < 1000) (hk : ∀ i its led, Inv i its led → (r, tupOf vs) ∈ led)
    (hcell : ∀ y ∈ scope.names, y.2 ≠ .cell) (hkind : scope.kind = .function) (hx : scope.names.lookup x = some .local) (F : Fr h₀ L s.heap m) (N : News h₀ L s.heap news) (h0 : Inv 0 [] news)
    (turn : CompTurn prog w A h₀ L m env elt x ifs scope cl Inv s vs.length (fun i v => vs[i]? = some v)) (done : CompDone h₀ L m Inv s vs.length RR) :
    wpAny (model prog w) A (pyIter (.ref r)) (fun it s₂ => CompTree prog w A E env elt iter x px ifs scope cl pos RR it s₂) E s := by
  have ht : s.heap.IsTuple r vs.toArray := ⟨_, (N _ hr).1, rfl, 0, rfl⟩
  refine wpAny_pyIter_tuple ht ?_
  have hne : r ≠ s.heap.objs.size := Nat.ne_of_lt (Heap.lt_size (N _ hr).1)
  have W := Walks.tuple (prog := prog) (w := w) hh s.heap.objs.size r hne vs.toArray
  rw [List.size_toArray] at W
  refine comp_core (src := [(r, tupOf vs)]) (I := s.heap.objs.size) (o0 := { cls := .type "tuple_iterator", data := .fields #[.ref r, .int 0 0] }) Inv W hsz hcell hkind hx ?_ ?_ ?_ (fun i its led hv p hp => List.mem_singleton.mp hp ▸ hk i its led hv) (F.push _) (News.push F N _)
    (fun p hp => Nat.ne_of_lt (Heap.lt_size (N p hp).1)) h0 ?_ done
  · exact ⟨⟨_, Heap.get?_push_size _ rfl, rfl, rfl⟩, ht.at fun o e => Heap.get?_push_of_some _ e⟩
  · rintro i h ⟨⟨o, h1, h2, h3⟩, _⟩
    exact ⟨o, h1, .of_cls (by rw [h2]; nofun), fun vs q t h e => by rw [h3] at h; injection h with h; subst h; cases e⟩
  · intro b hb
    rcases List.mem_cons.mp hb with h | h
    · exact .inl h
    · exact .inr ⟨_, by rw [List.mem_singleton.mp h]; exact List.mem_singleton.mpr rfl⟩
  · rintro i v its led h tk C oC D e o mC E' hi hP hv hl F' N' nC hmx sep c1 c2 c3 hso
    obtain ⟨sh, sg, sd, st, so⟩ := s
    exact turn _ i _ its led h tk C oC D e o mC E' hi (by simpa using hP) hv hl F' N' nC hmx sep c1 c2 c3 hso
/-- over a list -/
theorem comp_list {r : Addr} {vs : List Value} {n0 : Nat} (Inv : Nat → List Value → Led → Prop) (hh : A.handled = none) (hr : (r, listOf vs.toArray n0) ∈ news) (hsz : vs.length < 1000) (hk : ∀ i its led, Inv i its led → (r, listOf vs.toArray n0) ∈ led)
    (hcell : ∀ y ∈ scope.names, y.2 ≠ .cell) (hkind : scope.kind = .function) (hx : scope.names.lookup x = some .local) (F : Fr h₀ L s.heap m) (N : News h₀ L s.heap news) (h0 : Inv 0 [] news)
    (turn : CompTurn prog w A h₀ L m env elt x ifs scope cl Inv s vs.length (fun i v => vs[i]? = some v)) (done : CompDone h₀ L m Inv s vs.length RR) :
    wpAny (model prog w) A (pyIter (.ref r)) (fun it s₂ => CompTree prog w A E env elt iter x px ifs scope cl pos RR it s₂) E s := by
  have ht : s.heap.IsList r vs.toArray := ⟨_, (N _ hr).1, rfl, n0, rfl⟩
  refine wpAny_pyIter_list ht ?_
  have hne : r ≠ s.heap.objs.size := Nat.ne_of_lt (Heap.lt_size (N _ hr).1)
  have W := Walks.list (prog := prog) (w := w) hh s.heap.objs.size r hne vs.toArray
  rw [List.size_toArray] at W
  refine comp_core (src := [(r, listOf vs.toArray n0)]) (I := s.heap.objs.size) (o0 := { cls := .type "list_iterator", data := .fields #[.ref r, .int 0 0] }) Inv W hsz hcell hkind hx ?_ ?_ ?_ (fun i its led hv p hp => List.mem_singleton.mp hp ▸ hk i its led hv) (F.push _) (News.push F N _)
    (fun p hp => Nat.ne_of_lt (Heap.lt_size (N p hp).1)) h0 ?_ done
  · exact ⟨⟨_, Heap.get?_push_size _ rfl, rfl, rfl⟩, ht.at fun o e => Heap.get?_push_of_some _ e⟩
  · rintro i h ⟨⟨o, h1, h2, h3⟩, _⟩
    exact ⟨o, h1, .of_cls (by rw [h2]; nofun), fun vs q t h e => by rw [h3] at h; injection h with h; subst h; cases e⟩
  · intro b hb
    rcases List.mem_cons.mp hb with h | h
    · exact .inl h
    · exact .inr ⟨_, by rw [List.mem_singleton.mp h]; exact List.mem_singleton.mpr rfl⟩
  · rintro i v its led h tk C oC D e o mC E' hi hP hv hl F' N' nC hmx sep c1 c2 c3 hso
    obtain ⟨sh, sg, sd, st, so⟩ := s
    exact turn _ i _ its led h tk C oC D e o mC E' hi (by simpa using hP) hv hl F' N' nC hmx sep c1 c2 c3 hso
end

theorem comp_end {h₀ h' : Heap} {L : Addr} {m : Str → Option Value} {C D I : Addr × Obj} {Inv : Led → Prop} {s : Shared} {tk : Nat} {led : Led} (news' : Led) (F : Fr h₀ L h' m) (N : News h₀ L h' led) (c1 : C ∈ led) (c2 : D ∈ led) (c3 : I ∈ led)
    (hs : ∀ p ∈ news', p ∈ led ∧ p.1 ≠ C.1 ∧ p.1 ≠ D.1 ∧ p.1 ≠ I.1) (hi : Inv news') : CompEnd h₀ L m C D I Inv s { s with heap := h', toks := tk } := ⟨h', tk, led, news', rfl, F, N, c1, c2, c3, hs, hi⟩
end
section

theorem quotient_spec (w : World) (x : Int) (b : Nat) (W : Addr) (t1 t2 : Tok) (hx1 : -(2 ^ 39) < x) (hx2 : x < 2 ^ 39) (hb : 1 ≤ b) (hb2 : b < 200) :
    Spec w 89 180 1900 [.int x t1, .int b t2, .ref W] Tabs (fun news r news' => ∃ t, r = .int (x / b) t ∧ Kept news news') := by
  unfold Spec
  k_fill
  intro p loose mean mg mb dp un gd cn cs a ccd cl outer A₀ base h₀ L m news s Q E B F X N T hk hd hu hpre hret
  refine wpAny_call ?_
  k_dflt ktr_enter
  repeat' (first | (k_unfold; (try dsimp only); repeat (first | clear ek | clear qk)) | ((fail_if_success (with_reducible show wpAny _ _ (exec (Stmt.Expr _ _) _) _ _ _)); (fail_if_success (with_reducible show wpAny _ _ (exec (Stmt.While _ _ _ _) _) _ _ _)); (fail_if_success (with_reducible show wpAny _ _ (exec (Stmt.For _ _ _ _ _) _) _ _ _)); (fail_if_success (with_reducible show wpAny _ _ (eval (Expr.ListComp _ _ _ _) _) _ _ _)); (fail_if_success (with_reducible show wpAny _ _ (exec (Stmt.Assign _ (Expr.ListComp _ _ _ _) _) _) _ _ _)); (fail_if_success (with_reducible show wpAny _ _ (pyIter _) _ _ _)); (fail_if_success (with_reducible show wpAny _ _ (call (Value.ref _) _) _ _ _)); first | ((with_reducible show wpAny _ _ (exec _ _) _ _ _); k_fold) | (with_reducible (show wpAny _ _ (binaryOp Operator.FloorDiv (Value.int _ _) (Value.int _ _)) _ _ _; k_here; (refine my_floordiv (by first | assumption | omega) (by first | assumption | omega) ?_); intro _ _ _)) | (with_reducible (show wpAny _ _ (binaryOp Operator.Mod (Value.int _ _) (Value.int _ _)) _ _ _; k_here; (refine my_mod (by first | assumption | exact one_add_pos (by assumption) (by assumption) | omega) ?_); intro _ _ _)) | (with_reducible (show wpAny _ _ (callWith _ (Value.ref _) _ _ _) _ _ _; k_here; k_dflt (first | (refine' callWith_K ?ok1 ?ok2 ?_; (case ok1 => k_asm); (case ok2 => k_is); k_whole) | (refine' callWith_K0 ?ok1 ?ok2 ?_; (case ok1 => k_in); (case ok2 => k_is); k_whole)))) | (with_reducible (show wpAny _ _ (eval (PySem.Expr.Name _ _) (compEnvC _ _ _ _)) _ _ _; k_here; k_dflt (first | (refine' ce_local ?oN ?om ?on ?ov ?_ ?oa ?ob; (case oa => rfl); (case ob => rfl); (case on => assumption); (case oN => k_asm); (case om => k_mem); (case ov => assumption); k_whole) | (refine' ce_cell ?oN ?oc ?om ?od ?_ ?oa ?ob; (case oa => rfl); (case ob => rfl); (case oN => k_asm); (case oc => rfl); (case om => k_mem); (case od => k_asm); k_whole) | (refine' ce_K ?oF ?oX ?oT ?oe ?_ ?og ?oa ?ob; (case og => rfl); (case oa => rfl); (case ob => rfl); (case oF => k_asm); (case oX => k_asm); (case oT => k_asm); (case oe => k_is); k_whole) | (refine' ce_B ?oF ?oX ?oT ?oe ?ov ?on ?_ ?og ?ogb ?oa ?ob; (case og => rfl); (case ogb => rfl); (case oa => rfl); (case ob => rfl); (case oF => k_asm); (case oX => k_asm); (case oT => k_asm); (case oe => k_is); (case ov => boot_fast); (case on => decide); k_whole)))) | walk1 | (dsimp only; walk1)))
  refine Spec.use (int_divmod_spec w x b _ _ hx1 hx2 hb hb2) (by k_asm) (by k_asm) (by k_asm) (by k_asm) (by k_asm) rfl (by ktr_room) (by ktr_units) hpre ?_
  rintro r news1 h1 tk1 F1 N1 ⟨D, ta, tb, rfl, hD, hkept⟩
  repeat' (first | (k_unfold; (try dsimp only); repeat (first | clear ek | clear qk)) | ((fail_if_success (with_reducible show wpAny _ _ (exec (Stmt.Expr _ _) _) _ _ _)); (fail_if_success (with_reducible show wpAny _ _ (exec (Stmt.While _ _ _ _) _) _ _ _)); (fail_if_success (with_reducible show wpAny _ _ (exec (Stmt.For _ _ _ _ _) _) _ _ _)); (fail_if_success (with_reducible show wpAny _ _ (eval (Expr.ListComp _ _ _ _) _) _ _ _)); (fail_if_success (with_reducible show wpAny _ _ (exec (Stmt.Assign _ (Expr.ListComp _ _ _ _) _) _) _ _ _)); (fail_if_success (with_reducible show wpAny _ _ (pyIter _) _ _ _)); (fail_if_success (with_reducible show wpAny _ _ (call (Value.ref _) _) _ _ _)); first | ((with_reducible show wpAny _ _ (exec _ _) _ _ _); k_fold) | (with_reducible (show wpAny _ _ (binaryOp Operator.FloorDiv (Value.int _ _) (Value.int _ _)) _ _ _; k_here; (refine my_floordiv (by first | assumption | omega) (by first | assumption | omega) ?_); intro _ _ _)) | (with_reducible (show wpAny _ _ (binaryOp Operator.Mod (Value.int _ _) (Value.int _ _)) _ _ _; k_here; (refine my_mod (by first | assumption | exact one_add_pos (by assumption) (by assumption) | omega) ?_); intro _ _ _)) | (with_reducible (show wpAny _ _ (callWith _ (Value.ref _) _ _ _) _ _ _; k_here; k_dflt (first | (refine' callWith_K ?ok1 ?ok2 ?_; (case ok1 => k_asm); (case ok2 => k_is); k_whole) | (refine' callWith_K0 ?ok1 ?ok2 ?_; (case ok1 => k_in); (case ok2 => k_is); k_whole)))) | (with_reducible (show wpAny _ _ (eval (PySem.Expr.Name _ _) (compEnvC _ _ _ _)) _ _ _; k_here; k_dflt (first | (refine' ce_local ?oN ?om ?on ?ov ?_ ?oa ?ob; (case oa => rfl); (case ob => rfl); (case on => assumption); (case oN => k_asm); (case om => k_mem); (case ov => assumption); k_whole) | (refine' ce_cell ?oN ?oc ?om ?od ?_ ?oa ?ob; (case oa => rfl); (case ob => rfl); (case oN => k_asm); (case oc => rfl); (case om => k_mem); (case od => k_asm); k_whole) | (refine' ce_K ?oF ?oX ?oT ?oe ?_ ?og ?oa ?ob; (case og => rfl); (case oa => rfl); (case ob => rfl); (case oF => k_asm); (case oX => k_asm); (case oT => k_asm); (case oe => k_is); k_whole) | (refine' ce_B ?oF ?oX ?oT ?oe ?ov ?on ?_ ?og ?ogb ?oa ?ob; (case og => rfl); (case ogb => rfl); (case oa => rfl); (case ob => rfl); (case oF => k_asm); (case oX => k_asm); (case oT => k_asm); (case oe => k_is); (case ov => boot_fast); (case on => decide); k_whole)))) | walk1 | (dsimp only; walk1)))
  k_dflt (refine' comp_assign ?w ?c ?k ?n ?_; (case w => rfl); (case c => rfl); (case k => rfl); (case n => decide))
  repeat' (first | (k_unfold; (try dsimp only); repeat (first | clear ek | clear qk)) | ((fail_if_success (with_reducible show wpAny _ _ (exec (Stmt.Expr _ _) _) _ _ _)); (fail_if_success (with_reducible show wpAny _ _ (exec (Stmt.While _ _ _ _) _) _ _ _)); (fail_if_success (with_reducible show wpAny _ _ (exec (Stmt.For _ _ _ _ _) _) _ _ _)); (fail_if_success (with_reducible show wpAny _ _ (eval (Expr.ListComp _ _ _ _) _) _ _ _)); (fail_if_success (with_reducible show wpAny _ _ (exec (Stmt.Assign _ (Expr.ListComp _ _ _ _) _) _) _ _ _)); (fail_if_success (with_reducible show wpAny _ _ (pyIter _) _ _ _)); (fail_if_success (with_reducible show wpAny _ _ (call (Value.ref _) _) _ _ _)); first | ((with_reducible show wpAny _ _ (exec _ _) _ _ _); k_fold) | (with_reducible (show wpAny _ _ (binaryOp Operator.FloorDiv (Value.int _ _) (Value.int _ _)) _ _ _; k_here; (refine my_floordiv (by first | assumption | omega) (by first | assumption | omega) ?_); intro _ _ _)) | (with_reducible (show wpAny _ _ (binaryOp Operator.Mod (Value.int _ _) (Value.int _ _)) _ _ _; k_here; (refine my_mod (by first | assumption | exact one_add_pos (by assumption) (by assumption) | omega) ?_); intro _ _ _)) | (with_reducible (show wpAny _ _ (callWith _ (Value.ref _) _ _ _) _ _ _; k_here; k_dflt (first | (refine' callWith_K ?ok1 ?ok2 ?_; (case ok1 => k_asm); (case ok2 => k_is); k_whole) | (refine' callWith_K0 ?ok1 ?ok2 ?_; (case ok1 => k_in); (case ok2 => k_is); k_whole)))) | (with_reducible (show wpAny _ _ (eval (PySem.Expr.Name _ _) (compEnvC _ _ _ _)) _ _ _; k_here; k_dflt (first | (refine' ce_local ?oN ?om ?on ?ov ?_ ?oa ?ob; (case oa => rfl); (case ob => rfl); (case on => assumption); (case oN => k_asm); (case om => k_mem); (case ov => assumption); k_whole) | (refine' ce_cell ?oN ?oc ?om ?od ?_ ?oa ?ob; (case oa => rfl); (case ob => rfl); (case oN => k_asm); (case oc => rfl); (case om => k_mem); (case od => k_asm); k_whole) | (refine' ce_K ?oF ?oX ?oT ?oe ?_ ?og ?oa ?ob; (case og => rfl); (case oa => rfl); (case ob => rfl); (case oF => k_asm); (case oX => k_asm); (case oT => k_asm); (case oe => k_is); k_whole) | (refine' ce_B ?oF ?oX ?oT ?oe ?ov ?on ?_ ?og ?ogb ?oa ?ob; (case og => rfl); (case ogb => rfl); (case oa => rfl); (case ob => rfl); (case oF => k_asm); (case oX => k_asm); (case oT => k_asm); (case oe => k_is); (case ov => boot_fast); (case on => decide); k_whole)))) | walk1 | (dsimp only; walk1)))
  refine comp_tuple (fun i its led => its = List.replicate i (.bool true) ∧ Kept news1 led ∧ (D, tupOf [.int (x / b) ta, .int (x % b) tb]) ∈ led) rfl hD (by simp) (fun _ _ _ h => h.2.2) (by decide) rfl rfl (by k_asm) (by k_asm) ⟨rfl, .of_sub hkept.1 (fun _ h => h), hD⟩ ?turn ?done
  case turn =>
    rintro I i v its led h tk C oC D9 e o mC E' hin hv ⟨rfl, k2, k3⟩ hl F3 N3 nC hmx sep c1 c2 c3 hso
    have hvi : ∃ z tz, v = .int z tz := by
      match i, hin with
      | 0, _ => exact ⟨_, _, (Option.some.inj hv).symm⟩
      | 1, _ => exact ⟨_, _, (Option.some.inj hv).symm⟩
    obtain ⟨z, tz, rfl⟩ := hvi
    refine wpAny_tests_nil ?_
    rw [if_pos rfl]
    repeat' (first | (k_unfold; (try dsimp only); repeat (first | clear ek | clear qk)) | ((fail_if_success (with_reducible show wpAny _ _ (exec (Stmt.Expr _ _) _) _ _ _)); (fail_if_success (with_reducible show wpAny _ _ (exec (Stmt.While _ _ _ _) _) _ _ _)); (fail_if_success (with_reducible show wpAny _ _ (exec (Stmt.For _ _ _ _ _) _) _ _ _)); (fail_if_success (with_reducible show wpAny _ _ (eval (Expr.ListComp _ _ _ _) _) _ _ _)); (fail_if_success (with_reducible show wpAny _ _ (exec (Stmt.Assign _ (Expr.ListComp _ _ _ _) _) _) _ _ _)); (fail_if_success (with_reducible show wpAny _ _ (pyIter _) _ _ _)); (fail_if_success (with_reducible show wpAny _ _ (call (Value.ref _) _) _ _ _)); first | ((with_reducible show wpAny _ _ (exec _ _) _ _ _); k_fold) | (with_reducible (show wpAny _ _ (binaryOp Operator.FloorDiv (Value.int _ _) (Value.int _ _)) _ _ _; k_here; (refine my_floordiv (by first | assumption | omega) (by first | assumption | omega) ?_); intro _ _ _)) | (with_reducible (show wpAny _ _ (binaryOp Operator.Mod (Value.int _ _) (Value.int _ _)) _ _ _; k_here; (refine my_mod (by first | assumption | exact one_add_pos (by assumption) (by assumption) | omega) ?_); intro _ _ _)) | (with_reducible (show wpAny _ _ (callWith _ (Value.ref _) _ _ _) _ _ _; k_here; k_dflt (first | (refine' callWith_K ?ok1 ?ok2 ?_; (case ok1 => k_asm); (case ok2 => k_is); k_whole) | (refine' callWith_K0 ?ok1 ?ok2 ?_; (case ok1 => k_in); (case ok2 => k_is); k_whole)))) | (with_reducible (show wpAny _ _ (eval (PySem.Expr.Name _ _) (compEnvC _ _ _ _)) _ _ _; k_here; k_dflt (first | (refine' ce_local ?oN ?om ?on ?ov ?_ ?oa ?ob; (case oa => rfl); (case ob => rfl); (case on => assumption); (case oN => k_asm); (case om => k_mem); (case ov => assumption); k_whole) | (refine' ce_cell ?oN ?oc ?om ?od ?_ ?oa ?ob; (case oa => rfl); (case ob => rfl); (case oN => k_asm); (case oc => rfl); (case om => k_mem); (case od => k_asm); k_whole) | (refine' ce_K ?oF ?oX ?oT ?oe ?_ ?og ?oa ?ob; (case og => rfl); (case oa => rfl); (case ob => rfl); (case oF => k_asm); (case oX => k_asm); (case oT => k_asm); (case oe => k_is); k_whole) | (refine' ce_B ?oF ?oX ?oT ?oe ?ov ?on ?_ ?og ?ogb ?oa ?ob; (case og => rfl); (case ogb => rfl); (case oa => rfl); (case ob => rfl); (case oF => k_asm); (case oX => k_asm); (case oT => k_asm); (case oe => k_is); (case ov => boot_fast); (case on => decide); k_whole)))) | walk1 | (dsimp only; walk1)))
    refine comp_end led F3 N3 (by k_mem) (by k_mem) (by k_mem) (fun p hp => ⟨by k_mem, sep p hp⟩) ⟨?_, k2, k3⟩
    rw [List.replicate_succ']
    rfl
  case done =>
    rintro its led h tk C oC D9 e mC ⟨rfl, k2, k3⟩ F3 N3 nC sep hCD
    refine' comp_some ?a1 F3 N3 nC sep hCD ?a2 ?a3 ?_
    case a1 => rfl
    case a2 => rfl
    case a3 => rfl
    intro h4 F4 N4 hneD
    repeat' (first | (k_unfold; (try dsimp only); repeat (first | clear ek | clear qk)) | ((fail_if_success (with_reducible show wpAny _ _ (exec (Stmt.Expr _ _) _) _ _ _)); (fail_if_success (with_reducible show wpAny _ _ (exec (Stmt.While _ _ _ _) _) _ _ _)); (fail_if_success (with_reducible show wpAny _ _ (exec (Stmt.For _ _ _ _ _) _) _ _ _)); (fail_if_success (with_reducible show wpAny _ _ (eval (Expr.ListComp _ _ _ _) _) _ _ _)); (fail_if_success (with_reducible show wpAny _ _ (exec (Stmt.Assign _ (Expr.ListComp _ _ _ _) _) _) _ _ _)); (fail_if_success (with_reducible show wpAny _ _ (pyIter _) _ _ _)); (fail_if_success (with_reducible show wpAny _ _ (call (Value.ref _) _) _ _ _)); first | ((with_reducible show wpAny _ _ (exec _ _) _ _ _); k_fold) | (with_reducible (show wpAny _ _ (binaryOp Operator.FloorDiv (Value.int _ _) (Value.int _ _)) _ _ _; k_here; (refine my_floordiv (by first | assumption | omega) (by first | assumption | omega) ?_); intro _ _ _)) | (with_reducible (show wpAny _ _ (binaryOp Operator.Mod (Value.int _ _) (Value.int _ _)) _ _ _; k_here; (refine my_mod (by first | assumption | exact one_add_pos (by assumption) (by assumption) | omega) ?_); intro _ _ _)) | (with_reducible (show wpAny _ _ (callWith _ (Value.ref _) _ _ _) _ _ _; k_here; k_dflt (first | (refine' callWith_K ?ok1 ?ok2 ?_; (case ok1 => k_asm); (case ok2 => k_is); k_whole) | (refine' callWith_K0 ?ok1 ?ok2 ?_; (case ok1 => k_in); (case ok2 => k_is); k_whole)))) | (with_reducible (show wpAny _ _ (eval (PySem.Expr.Name _ _) (compEnvC _ _ _ _)) _ _ _; k_here; k_dflt (first | (refine' ce_local ?oN ?om ?on ?ov ?_ ?oa ?ob; (case oa => rfl); (case ob => rfl); (case on => assumption); (case oN => k_asm); (case om => k_mem); (case ov => assumption); k_whole) | (refine' ce_cell ?oN ?oc ?om ?od ?_ ?oa ?ob; (case oa => rfl); (case ob => rfl); (case oN => k_asm); (case oc => rfl); (case om => k_mem); (case od => k_asm); k_whole) | (refine' ce_K ?oF ?oX ?oT ?oe ?_ ?og ?oa ?ob; (case og => rfl); (case oa => rfl); (case ob => rfl); (case oF => k_asm); (case oX => k_asm); (case oT => k_asm); (case oe => k_is); k_whole) | (refine' ce_B ?oF ?oX ?oT ?oe ?ov ?on ?_ ?og ?ogb ?oa ?ob; (case og => rfl); (case ogb => rfl); (case oa => rfl); (case ob => rfl); (case oF => k_asm); (case oX => k_asm); (case oT => k_asm); (case oe => k_is); (case ov => boot_fast); (case on => decide); k_whole)))) | walk1 | (dsimp only; walk1)))
    · refine hret _ _ _ _ (by assumption) (by assumption) ⟨_, rfl, k2.1.sub fun q hq => by k_mem, fun q hq hs => ?_⟩
      have hq2 := k2.2 q (hkept.2 q hq hs) hs
      k_mem
    · exfalso
      rename (_ && _) = false => hf
      rename _ = _ % _ => hv1
      rename _ = _ / _ => hv2
      rw [hv1, hv2] at hf
      simp at hf
end
section

section
variable {prog : Program} {w : World} {A : Around} {E : Value → Shared → Prop} {s : Shared} {env : Env} {h₀ : Heap} {x : Str} {body : List Stmt} {Q : Flow → Shared → Prop}
/-- a for over a range's iterator that the ledger bears -/
theorem loop_rangeIt {I : Addr} {a c : Int} {n : Nat} {m : Str → Option Value} {news : Led} (J : Nat → (Str → Option Value) → Led → Prop) (hh : A.handled = none) (F : Fr h₀ env.locals s.heap m) (N : News h₀ env.locals s.heap ((I, rangeIt a n c) :: news)) (hnI : ∀ p ∈ news, p.1 ≠ I) (h0 : J 0 m news)
    (turn : ∀ i t m₁ news₁ h tk o, (∃ a n c, o = rangeIt a n c) → i < n → J i m₁ news₁ → (∀ p ∈ news₁, p.1 ≠ I) → Fr h₀ env.locals h (fun y => if y = x then some (.int (a + i * c) t) else m₁ y) → News h₀ env.locals h ((I, o) :: news₁) →
      wpAny (model prog w) A (execs body env) (ForPost h₀ env.locals (I, o) (J (i + 1)) { s with heap := h, toks := tk } Q) E { s with heap := h, toks := tk })
    (done : ∀ m₁ news₁ h tk, J n m₁ news₁ → Fr h₀ env.locals h m₁ → News h₀ env.locals h news₁ → Q .next { s with heap := h, toks := tk }) :
    LoopAtV prog w A h₀ env x body Q E (.ref I) s := by
  have hI := N _ (List.mem_cons_self ..)
  have W := Walks.range (prog := prog) (w := w) hh I a c n
  refine ⟨I, _, _, n, _, _, m, news, J, rfl, W, ?_, ?_, ?_, ?_, F, (fun p hp => N p (List.mem_cons_of_mem _ hp)), h0, ?_, ?_⟩
  · intro h
    exact hI.2.1 (List.mem_singleton.mp h).symm
  · intro b hb
    rw [List.mem_singleton.mp hb]
    exact hI.2.2
  · intro p hp h
    exact hnI p hp (List.mem_singleton.mp h)
  · have := hI.1
    simpa using this
  · rintro i v m₁ news₁ s₁ own ⟨hh', tk', rfl⟩ hin ⟨t, rfl⟩ hJ hoff hown hget hall hst F₁ N₁
    have hI' := hall I (by simp) hI.2.2 _ hst
    have hne : ∀ p ∈ news₁, p.1 ≠ I := fun p hp h => hoff p hp (by simp [h])
    have N₂ : News h₀ env.locals hh' ((I, rangeIt (a + ((i + 1 : Nat) : Int) * c) ((n : Int) - ((i + 1 : Nat) : Int)) c) :: news₁) := fun p hp => by
      rcases List.mem_cons.mp hp with rfl | hp
      · exact N₁ _ (List.mem_append_left _ hI')
      · exact N₁ p (List.mem_append_right _ hp)
    refine wpAny_mono (turn i t m₁ news₁ hh' tk' _ ⟨_, _, _, rfl⟩ hin hJ hne F₁ N₂) (fun f s₂ p => ?_) fun _ _ e => e
    have fin : ForEnd h₀ env.locals (I, rangeIt (a + ((i + 1 : Nat) : Int) * c) ((n : Int) - ((i + 1 : Nat) : Int)) c) (J (i + 1)) { s with heap := hh', toks := tk' } s₂ → LoopStepU h₀ env.locals [I] own (J (i + 1)) { s with heap := hh', toks := tk' } .next s₂ := by
      rintro ⟨h', tk, m', led, news', e, F', N', hIl, hn, hj⟩
      refine ⟨rfl, h', tk, m', news', e, F', fun p hp => ?_, fun p hp h => (hn p hp).2 (List.mem_singleton.mp h), hj⟩
      rcases List.mem_append.mp hp with hp | hp
      · have h1 := List.mem_singleton.mp (hown p hp)
        have h2 := hget p hp
        have h3 : p = (I, rangeIt (a + ((i + 1 : Nat) : Int) * c) ((n : Int) - ((i + 1 : Nat) : Int)) c) := by
          obtain ⟨p1, p2⟩ := p
          simp only at h1 h2
          subst h1
          have h4 : hh'.get? p1 = some (rangeIt (a + ((i + 1 : Nat) : Int) * c) ((n : Int) - ((i + 1 : Nat) : Int)) c) := hst
          rw [h2] at h4
          rw [Option.some.inj h4]
        exact h3 ▸ N' _ hIl
      · exact N' p (hn p hp).1
    cases f with
    | ret v => exact .ret p
    | brk => exact .brk p
    | next => exact .next (fin p)
    | cont => exact .cont (fin p)
  · rintro h' tk m' news' F' N' _ hJ
    exact done m' news' h' tk hJ F' N'
theorem loop_rangeS {σ : Type} {I : Addr} {a c : Int} {n : Nat} {m₀ : Str → Option Value} {news : Led} (ps : σ → List (Str × Value)) (stored : List Str) (Inv : Nat → σ → Led → Prop) (c₀ : σ) (hh : A.handled = none) (F : Fr h₀ env.locals s.heap m₀) (N : News h₀ env.locals s.heap ((I, rangeIt a n c) :: news)) (hnI : ∀ p ∈ news, p.1 ≠ I)
    (hk : ∀ p ∈ ps c₀, m₀ p.1 = some p.2) (h0 : Inv 0 c₀ news)
    (turn : ∀ i t cc (u : Str → Option Value) news₁ h tk o, (∃ a n c, o = rangeIt a n c) → i < n → Inv i cc news₁ → (∀ p ∈ news₁, p.1 ≠ I) → Fr h₀ env.locals h (fun y => if y = x then some (.int (a + i * c) t) else kstB (fun z => if stored.contains z then u z else m₀ z) (ps cc) y) → News h₀ env.locals h ((I, o) :: news₁) →
      wpAny (model prog w) A (execs body env) (ForPostS h₀ env.locals (I, o) ps stored m₀ (Inv (i + 1)) { s with heap := h, toks := tk } Q) E { s with heap := h, toks := tk })
    (done : ∀ cc (u : Str → Option Value) news₁ h tk, Inv n cc news₁ → Fr h₀ env.locals h (kstB (fun z => if stored.contains z then u z else m₀ z) (ps cc)) → News h₀ env.locals h news₁ → Q .next { s with heap := h, toks := tk }) :
    LoopAtV prog w A h₀ env x body Q E (.ref I) s := by
  refine loop_rangeIt (fun i m₁ news₁ => ∃ cc, Inv i cc news₁ ∧ (∀ p ∈ ps cc, m₁ p.1 = some p.2) ∧ (∀ z, (∀ p ∈ ps cc, z ≠ p.1) → stored.contains z = false → m₁ z = m₀ z)) hh F N hnI ⟨c₀, h0, hk, fun _ _ _ => rfl⟩ ?_ ?_
  · rintro i t m₁ news₁ h tk o hso hi ⟨cc, hinv, h1, h2⟩ hne F₁ N₁
    have e := frame_is h1 h2
    rw [← e] at F₁
    refine wpAny_mono (turn i t cc m₁ news₁ h tk o hso hi hinv hne F₁ N₁) (fun f s₂ p => ?_) fun _ _ e => e
    have fin : ForEndS h₀ env.locals (I, o) ps stored m₀ (Inv (i + 1)) { s with heap := h, toks := tk } s₂ → ForEnd h₀ env.locals (I, o) (fun m₁ news₁ => ∃ cc, Inv (i + 1) cc news₁ ∧ (∀ p ∈ ps cc, m₁ p.1 = some p.2) ∧ (∀ z, (∀ p ∈ ps cc, z ≠ p.1) → stored.contains z = false → m₁ z = m₀ z)) { s with heap := h, toks := tk } s₂ := by
      rintro ⟨c', h', tk, m', led, news', e, F', N', hI, hn, hk', hr', hi'⟩
      exact ⟨h', tk, m', led, news', e, F', N', hI, hn, c', hi', hk', hr'⟩
    cases f with
    | ret v => exact p
    | brk => exact p
    | next => exact fin p
    | cont => exact fin p
  · rintro m₁ news₁ h tk ⟨cc, hinv, h1, h2⟩ F₁ N₁
    have e := frame_is h1 h2
    rw [← e] at F₁
    exact done cc m₁ news₁ h tk hinv F₁ N₁
/-- a for over a range that the ledger bears -/
theorem for_rangeO {σ : Type} {r : Addr} {a b : Int} {tt uu vv : Tok} {m₀ : Str → Option Value} {news : Led} (ps : σ → List (Str × Value)) (stored : List Str) (Inv : Nat → σ → Led → Prop) (c₀ : σ) (hh : A.handled = none) (hr : (r, rangeObj a b 1 tt uu vv) ∈ news) (ha : -(2 ^ 40) < a) (hab : a ≤ b) (hb : b - a < 1000) (hb2 : b < 2 ^ 40) (F : Fr h₀ env.locals s.heap m₀) (N : News h₀ env.locals s.heap news)
    (hk : ∀ p ∈ ps c₀, m₀ p.1 = some p.2) (h0 : Inv 0 c₀ news)
    (turn : ∀ I i t cc (u : Str → Option Value) news₁ h tk o, (∃ a n c, o = rangeIt a n c) → i < (b - a).toNat → Inv i cc news₁ → (∀ p ∈ news₁, p.1 ≠ I) → Fr h₀ env.locals h (fun y => if y = x then some (.int (a + i) t) else kstB (fun z => if stored.contains z then u z else m₀ z) (ps cc) y) → News h₀ env.locals h ((I, o) :: news₁) →
      wpAny (model prog w) A (execs body env) (ForPostS h₀ env.locals (I, o) ps stored m₀ (Inv (i + 1)) { s with heap := h, toks := tk } Q) E { s with heap := h, toks := tk })
    (done : ∀ cc (u : Str → Option Value) news₁ h tk, Inv (b - a).toNat cc news₁ → Fr h₀ env.locals h (kstB (fun z => if stored.contains z then u z else m₀ z) (ps cc)) → News h₀ env.locals h news₁ → Q .next { s with heap := h, toks := tk }) :
    wpAny (model prog w) A (pyIter (.ref r)) (fun it s₂ => LoopAtV prog w A h₀ env x body Q E it s₂) E s := by
  refine wpAny_pyIter_range (N _ hr).1 (small_one (by omega) (by omega) (by omega) (by omega)) ?_
  have hn : Builtin.Range.rangeSize a b 1 = ((b - a).toNat : Int) := by rw [rangeSize_one]; split <;> omega
  rw [hn]
  refine loop_rangeS (I := s.heap.objs.size) (a := a) (c := 1) (n := (b - a).toNat) ps stored Inv c₀ hh (F.push _) (News.push F N _) (fun p hp => Nat.ne_of_lt (Heap.lt_size (N p hp).1)) hk h0 ?_ ?_
  · intro i t cc u news₁ h tk o hso hi hI hne F₁ N₁
    have e9 : a + (i : Int) * 1 = a + i := by omega
    rw [e9] at F₁
    obtain ⟨sh, sg, sd, st, so⟩ := s
    exact turn _ i t cc u news₁ h tk o hso hi hI hne F₁ N₁
  · intro cc u news₁ h tk hI F₁ N₁
    obtain ⟨sh, sg, sd, st, so⟩ := s
    exact done cc u news₁ h tk hI F₁ N₁
end
end
section

theorem seven {i : Nat} (h : i < 7) : 7 - i = (7 - (i + 1)) + 1 := (Nat.sub_add_cancel (Nat.sub_pos_of_lt h)).symm
theorem div_box {B b l : Nat} (hl : 1 ≤ l) : B < (B + b) / l * l - b + l ∧ (B + b) / l * l ≤ B + b := by
  have g1 := Nat.div_add_mod (B + b) l
  have g2 := Nat.mod_lt (B + b) hl
  rw [Nat.mul_comm] at g1
  omega
theorem cast_sub_of {m b l B : Nat} (h : B < m - b + l) (hl : l ≤ B) : (m : Int) - (b : Int) = ((m - b : Nat) : Int) := by omega
theorem pos_of {m b l B : Nat} (h : B < m - b + l) (hl : l ≤ B) : 1 ≤ m - b := by omega
theorem box100 {x : Int} {l : Nat} (h1 : -(2 ^ 20) < x) (h2 : x < 2 ^ 20) (hl : l ≤ 100) : -(2 ^ 20 * 100) ≤ x * (l : Int) ∧ x * (l : Int) ≤ 2 ^ 20 * 100 := by
  have hl1 : (0 : Int) ≤ (l : Int) := Int.natCast_nonneg _
  have a1 := Int.mul_le_mul_of_nonneg_right (show x ≤ 2 ^ 20 by omega) hl1
  have a2 := Int.mul_le_mul_of_nonneg_right (show -(2 ^ 20) ≤ x by omega) hl1
  omega
theorem box39 {y : Int} (h : -(2 ^ 20 * 100) ≤ y ∧ y ≤ 2 ^ 20 * 100) : -(2 ^ 39) < y + 1 ∧ y + 1 < 2 ^ 39 := by omega
theorem lt700 {a c i : Nat} (h : a = c) (h2 : c ≤ 100 * i) (hi : i < 7) : a < 1000 := by omega
theorem one_add60 {j k : Nat} (h : j < k) (hk : k ≤ 100) : (1 + (j : Int)).natAbs < 2 ^ 60 := by omega
theorem nat60m {n m : Nat} (h : n ≤ m) (hm : m < 2 ^ 60) : (n : Int).natAbs < 2 ^ 60 := by
  rw [Int.natAbs_natCast]; exact Nat.lt_of_le_of_lt h hm
theorem nat39 {n m : Nat} (h : n ≤ m) (hm : m < 2 ^ 39) : (n : Int) < 2 ^ 39 := by omega
theorem neg39 (n : Nat) : -(2 ^ 39) < (n : Int) := by omega
theorem len_next {a k i : Nat} (h : a ≤ 100 * i) (hk : k ≤ 100) : a + k ≤ 100 * (i + 1) := by
  rw [Nat.mul_add, Nat.mul_one]; exact Nat.add_le_add h hk
theorem one_add_pos {v8 v7 b : Int} (hb : b = 1 + v7) (h7 : v7 = v8 % 8) : 0 < b := by omega
theorem law_B {v8 v7 b : Int} (h7 : v7 = v8 % 8) (hb : b = 1 + v7) : 1 ≤ b ∧ b ≤ 8 := by omega
theorem law_b {v5 v4 b B : Int} (h4 : v4 = v5 % B) (hb : b = 1 + v4) (hB : 1 ≤ B ∧ B ≤ 8) : 1 ≤ b ∧ b ≤ B := by
  have p := Int.emod_nonneg v5 (show B ≠ 0 by omega)
  have q := Int.emod_lt_of_pos v5 (show 0 < B by omega)
  omega
theorem law_x {v2 v1 x : Int} (h1 : v1 = v2 % 2001) (hx : x = v1 - 1000) : -1000 ≤ x ∧ x ≤ 1000 := by omega
theorem ex_nat {a : Int} (h : 1 ≤ a) : ∃ n : Nat, a = (n : Int) := ⟨a.toNat, by omega⟩
theorem nat_box {b : Nat} (h : 1 ≤ (b : Int) ∧ (b : Int) ≤ 8) : 1 ≤ b ∧ b ≤ 8 := by omega
theorem nat_box2 {b B : Nat} (h : 1 ≤ (b : Int) ∧ (b : Int) ≤ (B : Int)) : 1 ≤ b ∧ b ≤ B := by omega
theorem abs_lt20 {z x : Int} (h : z.natAbs ≤ x.natAbs) (hx : -1000 ≤ x ∧ x ≤ 1000) : -(2 ^ 20) < z ∧ z < 2 ^ 20 := by omega
theorem lt7B {a c B : Nat} (h : a = c) (h2 : c ≤ 7 * B) (hB : B ≤ 8) : a < 1000 := by omega
theorem c_box {c b B : Nat} (h1 : 0 < c) (h2 : c ≤ b) (h3 : b ≤ B) (h4 : B ≤ 8) : (0 : Int) < (c : Int) ∧ (c : Int) < 1000000 := by omega
end
section

section
variable {prog : Program} {w : World} {A : Around} {E : Value → Shared → Prop} {s : Shared} {h₀ : Heap} {L D b : Addr} {m : Str → Option Value} {led : Led} {n n2 : Nat} {vs us : List Value} {Q : Value → Shared → Prop}
theorem my_extend (Fx : Fr h₀ L s.heap m) (N : News h₀ L s.heap led) (hm : (D, listOf vs.toArray n) ∈ led) (hb : (b, listOf us.toArray n2) ∈ led) (hz : vs.length < 1000) (hz2 : us.length < 1000)
    (h : ∀ h' led' n', Fr h₀ L h' m → News h₀ L h' led' → (D, listOf (vs ++ us).toArray n') ∈ led' → (∀ p ∈ led, p.1 ≠ D → p ∈ led') → (∀ p ∈ led', p.1 ≠ D → p ∈ led) → Q .none { s with heap := h' }) :
    wpAny (model prog w) A (call (.builtin "list.extend") [.ref D, .ref b]) Q E s := by
  have z := N _ hm
  have ho' := PySem.IsL.update z.1 (fun x => x ++ us.toArray)
  have e1 : vs.toArray ++ us.toArray = (vs ++ us).toArray := by simp
  rw [e1] at ho'
  obtain ⟨led', n1, n2', n3, n4⟩ := news_upd N hm (Heap.SameBut.update ..) ho'
  refine call_meets PySem.F.slot_list_extend ⟨_, z.1, rfl⟩ PySem.F.entry_list_extend (PySem.F.args_list_extend_2 _ _) (PySem.AutoSeq1.list_extend_list_list_0 D vs.toArray n b us.toArray n2 ?_ (by rw [List.size_toArray, sizeLine_eq]; omega) (by rw [List.size_toArray, List.size_toArray, sizeLine_eq]; omega))
    ⟨z.1, (N _ hb).1, h _ led' _ (Fx.change (Heap.SameBut.update ..) z.2.1 z.2.2) n1 n2' n3 n4⟩
  simp only [Builtin.List.listTooLong, List.size_toArray, Bool.and_eq_true, decide_eq_true_eq, not_and]
  intro _
  simp [sizeLine_eq]
  omega
end

section
variable {M : Model} {A : Around} {E : Value → Shared → Prop} {s : Shared} {h₀ : Heap} {L a : Addr} {m : Str → Option Value} {cn : Str} {cs : Scope} {ccd : Value} {cl : List (Str × Addr)}
  {x : Str} {v : Value} {Q : Unit → Shared → Prop} {led : Led} {c : Addr} {o : Obj} {v₀ : Option Value}
theorem store_cell (F : Fr h₀ L s.heap m) (N : News h₀ L s.heap led) (hc : cl.lookup x = some c) (hm : (c, o) ∈ led) (hd : o.data = .cell v₀)
    (h : ∀ h' led' o', Fr h₀ L h' m → News h₀ L h' led' → (c, o') ∈ led' → o'.data = .cell (some v) → (∀ p ∈ led, p.1 ≠ c → p ∈ led') → Q () { s with heap := h' })
    (hk : cs.kind = .function := by rfl) (hx : (envX cn cs L a ccd cl).kindOf x = some .cell := by rfl) : wpAny M A (storeName (envX cn cs L a ccd cl) x v) Q E s := by
  have hmem := N (c, o) hm
  refine wpAny_storeName_cell hk hx hc ⟨o, hmem.1, hd⟩ fun h' hv hs => ?_
  obtain ⟨o', ho', hd'⟩ := hv
  obtain ⟨led', n1, n2, n3, n4⟩ := news_upd N hm hs ho'
  exact h h' led' o' (F.change hs hmem.2.1 hmem.2.2) n1 n2 hd' n3
end
theorem Tabs.updS {h₀ h : Heap} {L D : Addr} {o : Obj} {led led' : Led} (N : News h₀ L h led) (T : Tabs led) (hm : (D, o) ∈ led) (hd : ∀ vs, o.data ≠ .fields vs) (hk : ∀ p ∈ led, p.1 ≠ D → p ∈ led') : Tabs led' := by
  have tab : ∀ (P : Addr) (o' : Obj), IsTab o' → (P, o') ∈ led → (P, o') ∈ led' := fun P o' ht hp => hk _ hp fun q => by
    simp only at q
    subst q
    exact Solid.of_data hd (news_same N hp hm ▸ ht)
  have fld : ∀ q ∈ led, Solid q.2 → (∃ vs, q.2.data = .fields vs) → q ∈ led' := fun q hq _ ⟨vs, hv⟩ => hk _ hq fun e' => by
    obtain ⟨a, o'⟩ := q
    simp only at e' hv
    subst e'
    exact hd vs (news_same N hq hm ▸ hv)
  exact ⟨T.1.mono (tab _) fld, T.2.mono (tab _) fld⟩
theorem news_ne {h₀ h : Heap} {L D D' : Addr} {o o' : Obj} {led : Led} (N : News h₀ L h led) (h1 : (D, o) ∈ led) (h2 : (D', o') ∈ led) (hd : o ≠ o') : D ≠ D' := by
  intro e
  subst e
  exact hd (news_same N h1 h2)

theorem sub_last {prog : Program} {w : World} {A : Around} {E : Value → Shared → Prop} {s : Shared} {h₀ : Heap} {L D : Addr} {led : Led} {n : Nat} {vs : List Value} {xs : List Int} {u : Tok} {value slice : PySem.Expr} {Q : Value → Shared → Prop}
    (N : News h₀ L s.heap led) (hm : (D, listOf vs.toArray n) ∈ led) (hi : IntsAre vs xs) (hne : xs ≠ []) (hz : xs.length < 1000) (h : ∀ t, Q (.int (xs.getLastD 0) t) s)
    (hs : subscripted slice false (.ref D) (.int (-1) u) = operate [.ref D, .int (-1) u] (getItem (.ref D) (.int (-1) u)) := by with_unfolding_all rfl) (hg : ∀ r, letTemporaryGo value (.ref D) r = pure () := by intro _; with_unfolding_all rfl) :
    wpAny (model prog w) A (subscriptTail value slice (.ref D) (.int (-1) u)) Q E s := by
  have hl : vs.length = xs.length := hi.length
  have hpos : 0 < xs.length := List.length_pos_iff.mpr hne
  have hlast : xs[xs.length - 1]? = some (xs.getLastD 0) := by
    rw [List.getLastD_eq_getLast?, List.getLast?_eq_getElem?]
    rw [List.getElem?_eq_getElem (by omega)]; rfl
  obtain ⟨t, ht⟩ := hi.get _ _ hlast
  refine kim_back N hm rfl rfl (by decide) (by omega) (by decide) ?_ (h t) hs hg
  rw [show (-1 + (vs.length : Int)).toNat = xs.length - 1 from by omega]
  exact ht

/-- the objects at as are pairs of ints -/
inductive PairsAre (led : Led) : List Addr → List (Int × Int) → Prop
  | nil : PairsAre led [] []
  | cons {a : Addr} {p q : Int} {tp tq : Tok} {as : List Addr} {ps : List (Int × Int)} : (a, tupOf [.int p tp, .int q tq]) ∈ led → PairsAre led as ps → PairsAre led (a :: as) ((p, q) :: ps)
theorem PairsAre.mono {led led' : Led} (h : ∀ a p q tp tq, (a, tupOf [.int p tp, .int q tq]) ∈ led → (a, tupOf [.int p tp, .int q tq]) ∈ led') {as : List Addr} {ps : List (Int × Int)} (P : PairsAre led as ps) : PairsAre led' as ps := by
  induction P with
  | nil => exact .nil
  | cons h1 _ ih => exact .cons (h _ _ _ _ _ h1) ih
theorem PairsAre.append {led : Led} {as bs : List Addr} {ps qs : List (Int × Int)} (P : PairsAre led as ps) (P' : PairsAre led bs qs) : PairsAre led (as ++ bs) (ps ++ qs) := by
  induction P with
  | nil => exact P'
  | cons h1 _ ih => exact .cons h1 ih
theorem PairsAre.length {led : Led} {as : List Addr} {ps : List (Int × Int)} (P : PairsAre led as ps) : as.length = ps.length := by
  induction P with
  | nil => rfl
  | cons _ _ ih => exact congrArg Nat.succ ih
theorem list_nf (its : Array Value) (n : Nat) : ∀ vs, (listOf its n).data ≠ .fields vs := nofun
theorem list_nc (its : Array Value) (n : Nat) : ∀ v, (listOf its n).data ≠ .cell v := nofun
theorem tup_nc (its : List Value) : ∀ v, (tupOf its).data ≠ .cell v := nofun
theorem solid_tup (its : List Value) : Solid (tupOf its) := .of_cls nofun

/-- the greatest k up to B whose cross product with x over b is one more -/
def lowOf (B : Nat) (x : Int) (b : Nat) : Nat := ((List.range B).filter fun i : Nat => decide ((x * ((i : Int) + 1) + 1) % (b : Int) = 0)).getLastD 0 + 1
def toldRow (x : Int) (b k : Nat) : List (Int × Int) := (List.range k).map fun i : Nat => (((i : Int) + 1) * x, ((i : Int) + 1) * b)
def toldLoop (B : Nat) : Nat → Int → Int → Nat → Nat → List (Int × Int)
  | 0, _, _, _, _ => []
  | n + 1, x, h, b, l => toldRow x b (B / b) ++ toldLoop B n h (((B + b) / l : Nat) * h - x) l ((B + b) / l * l - b)
def toldP (B : Nat) (x : Int) (b : Nat) : List (Int × Int) := toldLoop B 7 x ((x * lowOf B x b + 1) / b) b (lowOf B x b)

/-- what stands between two turns of the told loop -/
structure TI (news : Led) (K Lt : Addr) (x : Int) (b : Nat) (as : List Addr) (acc : List (Int × Int)) (led : Led) : Prop where
  c1 : ∃ o t, (K + 1, o) ∈ led ∧ o.data = .cell (some (.int x t))
  c2 : ∃ o t, (K + 1 + 1, o) ∈ led ∧ o.data = .cell (some (.int (b : Int) t))
  told : ∃ e, (Lt, refs as e) ∈ led
  pairs : PairsAre led as acc
  tabs : Tabs led
  keep : ∀ p ∈ news, Solid p.2 → p ∈ led ∧ p.1 ≠ Lt ∧ p.1 ≠ K + 1 ∧ p.1 ≠ K + 1 + 1
theorem TI.kept {news led led' : Led} {K Lt : Addr} {x : Int} {b : Nat} {as : List Addr} {acc : List (Int × Int)} (h : TI news K Lt x b as acc led) (k : Kept led led') : TI news K Lt x b as acc led' := by
  obtain ⟨⟨o1, t1, m1, d1⟩, ⟨o2, t2, m2, d2⟩, ⟨e, m3⟩, hp, ht, hk⟩ := h
  refine ⟨⟨o1, t1, k.2 _ m1 (.of_data fun vs h => ?_), d1⟩, ⟨o2, t2, k.2 _ m2 (.of_data fun vs h => ?_), d2⟩, ⟨e, k.2 _ m3 (solid_list _ _)⟩, hp.mono fun a p q tp tq h => k.2 _ h (.of_cls (by nofun)), k.1, fun p hp hs => ⟨k.2 p (hk p hp hs).1 hs, (hk p hp hs).2⟩⟩
  · simp only at h; rw [d1] at h; cases h
  · simp only at h; rw [d2] at h; cases h
theorem TI.sub {news led led' : Led} {K Lt : Addr} {x : Int} {b : Nat} {as : List Addr} {acc : List (Int × Int)} (h : TI news K Lt x b as acc led) (k : ∀ p ∈ led, p ∈ led') : TI news K Lt x b as acc led' := h.kept (.of_sub h.tabs k)
theorem cell_ne_list {o : Obj} {v : Option Value} {its : Array Value} {e : Nat} (hd : o.data = .cell v) : o ≠ listOf its e := by
  intro h
  rw [h] at hd
  cases hd
theorem cell_ne_tup {o : Obj} {v : Option Value} {vs : List Value} (hd : o.data = .cell v) : o ≠ tupOf vs := by
  intro h
  rw [h] at hd
  cases hd
theorem list_ne_tup {its : Array Value} {e : Nat} {vs : List Value} : listOf its e ≠ tupOf vs := by
  intro h
  have := congrArg Obj.cls h
  injection this with e9
  exact absurd e9 (by decide)
theorem cell_not_fields {o : Obj} {v : Option Value} (hd : o.data = .cell v) (vs : Array Value) : o.data ≠ .fields vs := by
  rw [hd]; nofun
theorem TI.ext {h₀ h : Heap} {L : Addr} {news led led' : Led} {K Lt : Addr} {x : Int} {b : Nat} {as bs : List Addr} {acc row : List (Int × Int)} {e : Nat} (N : News h₀ L h led) (h : TI news K Lt x b as acc led) (hr : PairsAre led bs row) (hm : (Lt, refs (as ++ bs) e) ∈ led') (k : ∀ p ∈ led, p.1 ≠ Lt → p ∈ led') : TI news K Lt x b (as ++ bs) (acc ++ row) led' := by
  obtain ⟨⟨o1, t1, m1, d1⟩, ⟨o2, t2, m2, d2⟩, ⟨e, m3⟩, hp, ht, hk⟩ := h
  have pk : ∀ a p q tp tq, (a, tupOf [.int p tp, .int q tq]) ∈ led → (a, tupOf [.int p tp, .int q tq]) ∈ led' := fun a p q tp tq h => k _ h (news_ne N h m3 (Ne.symm list_ne_tup))
  exact ⟨⟨o1, t1, k _ m1 (news_ne N m1 m3 (cell_ne_list d1)), d1⟩, ⟨o2, t2, k _ m2 (news_ne N m2 m3 (cell_ne_list d2)), d2⟩, ⟨_, hm⟩, (hp.mono pk).append (hr.mono pk), Tabs.updS N ht m3 (by nofun) k, fun p hp hs => ⟨k p (hk p hp hs).1 (hk p hp hs).2.1, (hk p hp hs).2⟩⟩
theorem TI.st1 {h₀ h : Heap} {L : Addr} {news led led' : Led} {K Lt : Addr} {x x' : Int} {b : Nat} {as : List Addr} {acc : List (Int × Int)} {o : Obj} {t : Tok} (N : News h₀ L h led) (h : TI news K Lt x b as acc led) (hm : (K + 1, o) ∈ led') (hd : o.data = .cell (some (.int x' t))) (k : ∀ p ∈ led, p.1 ≠ K + 1 → p ∈ led') : TI news K Lt x' b as acc led' := by
  obtain ⟨⟨o1, t1, m1, d1⟩, ⟨o2, t2, m2, d2⟩, ⟨e, m3⟩, hp, ht, hk⟩ := h
  exact ⟨⟨o, t, hm, hd⟩, ⟨o2, t2, k _ m2 (Nat.succ_ne_self _), d2⟩, ⟨_, k _ m3 (news_ne N m3 m1 (Ne.symm (cell_ne_list d1)))⟩, hp.mono fun a p q tp tq h => k _ h (news_ne N h m1 (Ne.symm (cell_ne_tup d1))), Tabs.updS N ht m1 (cell_not_fields d1) k, fun p hp hs => ⟨k p (hk p hp hs).1 (hk p hp hs).2.2.1, (hk p hp hs).2⟩⟩
theorem TI.st2 {h₀ h : Heap} {L : Addr} {news led led' : Led} {K Lt : Addr} {x : Int} {b b' : Nat} {as : List Addr} {acc : List (Int × Int)} {o : Obj} {t : Tok} (N : News h₀ L h led) (h : TI news K Lt x b as acc led) (hm : (K + 1 + 1, o) ∈ led') (hd : o.data = .cell (some (.int (b' : Int) t))) (k : ∀ p ∈ led, p.1 ≠ K + 1 + 1 → p ∈ led') : TI news K Lt x b' as acc led' := by
  obtain ⟨⟨o1, t1, m1, d1⟩, ⟨o2, t2, m2, d2⟩, ⟨e, m3⟩, hp, ht, hk⟩ := h
  exact ⟨⟨o1, t1, k _ m1 (Ne.symm (Nat.succ_ne_self _)), d1⟩, ⟨o, t, hm, hd⟩, ⟨_, k _ m3 (news_ne N m3 m2 (Ne.symm (cell_ne_list d2)))⟩, hp.mono fun a p q tp tq h => k _ h (news_ne N h m2 (Ne.symm (cell_ne_tup d2))), Tabs.updS N ht m2 (cell_not_fields d2) k, fun p hp hs => ⟨k p (hk p hp hs).1 (hk p hp hs).2.2.2, (hk p hp hs).2⟩⟩

theorem TabOk.off {h₀ h : Heap} {L I P : Addr} {pos : Pos} {qual : Str} {o : Obj} {led : Led} (N : News h₀ L h led) (T : TabOk P pos qual led) (hm : (I, o) ∈ led) (ho : ∃ a n c, o = rangeIt a n c) : TabOk P pos qual (led.filter fun p => p.1 ≠ I) := by
  obtain ⟨a, n, c, rfl⟩ := ho
  have f : ∀ (q : Addr) (o' : Obj), (q, o') ∈ led → o' ≠ rangeIt a n c → (q, o') ∈ led.filter fun p => p.1 ≠ I := fun q o' h hn => List.mem_filter.mpr ⟨h, by simpa using news_ne N h hm hn⟩
  obtain ⟨ps, h1, h2⟩ := T
  refine ⟨ps, f _ _ h1 (fun e => ?_), ?_⟩
  · have := congrArg Obj.cls e
    cases this
  rcases h2 with rfl | ⟨c', oc, vs, t, rfl, hc, hd, hv⟩
  · exact .inl rfl
  · refine .inr ⟨c', oc, vs, t, rfl, f _ _ hc (fun e => ?_), hd, hv⟩
    subst e
    injection hd with hd
    subst hd
    cases hv
theorem Tabs.off {h₀ h : Heap} {L I : Addr} {o : Obj} {led : Led} (N : News h₀ L h led) (T : Tabs led) (hm : (I, o) ∈ led) (ho : ∃ a n c, o = rangeIt a n c) : Tabs (led.filter fun p => p.1 ≠ I) := ⟨TabOk.off N T.1 hm ho, TabOk.off N T.2 hm ho⟩
theorem TI.off {h₀ h : Heap} {L I : Addr} {o : Obj} {news led : Led} {K Lt : Addr} {x : Int} {b : Nat} {as : List Addr} {acc : List (Int × Int)} (N : News h₀ L h led) (T : TI news K Lt x b as acc led) (hm : (I, o) ∈ led) (ho : ∃ a n c, o = rangeIt a n c) (hn : ∀ p ∈ news, Solid p.2 → p.1 ≠ I) : TI news K Lt x b as acc (led.filter fun p => p.1 ≠ I) := by
  obtain ⟨⟨o1, t1, m1, d1⟩, ⟨o2, t2, m2, d2⟩, ⟨e, m3⟩, hp, ht, hk⟩ := T
  have ht' := ht.off N hm ho
  obtain ⟨a, n, c, rfl⟩ := ho
  have f : ∀ (q : Addr) (o' : Obj), (q, o') ∈ led → o' ≠ rangeIt a n c → (q, o') ∈ led.filter fun p => p.1 ≠ I := fun q o' h hn => List.mem_filter.mpr ⟨h, by simpa using news_ne N h hm hn⟩
  refine ⟨⟨o1, t1, f _ _ m1 fun e => ?_, d1⟩, ⟨o2, t2, f _ _ m2 fun e => ?_, d2⟩, ⟨e, f _ _ m3 fun e => ?_⟩, hp.mono fun a p q tp tq h => f _ _ h fun e => ?_, ht', fun p hp hs => ⟨List.mem_filter.mpr ⟨(hk p hp hs).1, by simpa using hn p hp hs⟩, (hk p hp hs).2⟩⟩
  · rw [e] at d1; cases d1
  · rw [e] at d2; cases d2
  · have := congrArg Obj.cls e
    injection this with e9
    exact absurd e9 (by decide)
  · have := congrArg Obj.cls e
    injection this with e9
    exact absurd e9 (by decide)
theorem solid_it {o : Obj} (ho : ∃ a n c, o = rangeIt a n c) : Solid o := by
  obtain ⟨a, n, c, rfl⟩ := ho
  exact .of_cls (by nofun)

theorem told_spec (w : World) (B b : Nat) (x : Int) (W : Addr) (t1 t2 t3 : Tok) (hB : B ≤ 100) (hb : 1 ≤ b) (hb2 : b ≤ B) (hx1 : -(2 ^ 20) < x) (hx2 : x < 2 ^ 20) (hlow : ∃ i : Nat, i < B ∧ (x * ((i : Int) + 1) + 1) % (b : Int) = 0) :
    Spec w 99 200 2200 [.int B t1, .int x t2, .int b t3, .ref W] Tabs (fun news r news' => ∃ Lt as e, r = .ref Lt ∧ (Lt, refs as e) ∈ news' ∧ PairsAre news' as (toldP B x b) ∧ Kept news news') := by
  unfold Spec
  k_fill
  intro p loose mean mg mb dp un gd cn cs a ccd cl outer A₀ base h₀ L m news s Q E B₀ F X N T hk hd hu hpre hret
  have hx60 := abs20 hx1 hx2
  have CH := codeHd_of_K (c := 69) (P := 65) X (by kernel_rfl)
  refine wpAny_call ?_
  k_dflt (refine' code_defC ?k1 ?k2 ?k3 ?k4 ?k5 ?kA ?kF ?kK ?k6 ?k7 ?k8 ?k9 ?kB ?kD ?_ ?c2 ?c3 ?c4; (case kA => exact rfl); (case kF => exact rfl); (case kK => assumption); (case k1 => k_asm); (case k2 => k_asm); (case k3 => k_asm); (case k4 => k_asm); (case k5 => k_asm); (case k6 => k_is); (case k7 => k_is); (case k8 => ktr_room); (case k9 => exact BindsTo.of_eq rfl); (case kB => exact rfl); (case kD => decide +kernel); (case c2 => exact rfl); (case c3 => exact rfl); (case c4 => exact rfl); k_whole)
  intro g' L' h' tk' cells' FG' F' N' Y' B' X' T' l1
  k_cells Y'
  simp only [List.cons_append, List.nil_append] at N'
  (try k_fold)
  rename_i o2 o1 d2 d1
  replace d1 : o1.data = .cell (some (.int x t2)) := d1
  replace d2 : o2.data = .cell (some (.int b t3)) := d2
  repeat' (first | (k_unfold; (try dsimp only); repeat (first | clear ek | clear qk)) | ((fail_if_success (with_reducible show wpAny _ _ (subscriptTail _ _ _ _) _ _ _)); (fail_if_success (with_reducible show wpAny _ _ (exec (Stmt.While _ _ _ _) _) _ _ _)); (fail_if_success (with_reducible show wpAny _ _ (exec (Stmt.For _ _ _ _ _) _) _ _ _)); (fail_if_success (with_reducible show wpAny _ _ (eval (Expr.ListComp _ _ _ _) _) _ _ _)); (fail_if_success (with_reducible show wpAny _ _ (exec (Stmt.Assign _ (Expr.ListComp _ _ _ _) _) _) _ _ _)); (fail_if_success (with_reducible show wpAny _ _ (pyIter _) _ _ _)); (fail_if_success (with_reducible show wpAny _ _ (call (Value.ref _) _) _ _ _)); first | ((first | (with_reducible show wpAny _ _ (exec _ _) _ _ _) | ((with_reducible show wpAny _ _ (eval _ _) _ _ _); (fail_if_success (with_reducible show wpAny _ _ (eval (PySem.Expr.Name _ _) _) _ _ _)); (fail_if_success (with_reducible show wpAny _ _ (eval (PySem.Expr.Constant _ _ _) _) _ _ _)); skip)); k_fold) | (with_reducible (show wpAny _ _ (binaryOp Operator.Add (Value.int _ _) (Value.int _ _)) _ _ _; k_here; (refine my_add ?_); intro _ _ _)) | (with_reducible (show wpAny _ _ (binaryOp Operator.Mod (Value.int _ _) (Value.int _ _)) _ _ _; k_here; (refine my_mod (by first | assumption | exact one_add_pos (by assumption) (by assumption) | omega) ?_); intro _ _ _)) | (with_reducible (show wpAny _ _ (binaryOp Operator.Mult (Value.int _ _) (Value.int _ _)) _ _ _; k_here; (refine my_mul (by first | (left; decide) | (right; decide) | (left; assumption) | (right; assumption) | omega) ?_); intro _ _ _)) | (with_reducible (show wpAny _ _ (binaryOp Operator.Sub (Value.int _ _) (Value.int _ _)) _ _ _; k_here; (refine my_sub ?_); intro _ _ _)) | (with_reducible (show wpAny _ _ (call (Value.type "range") _) _ _ _; k_here; k_dflt (first | (refine' my_range1 ?ok1 ?ok2 ?_; (case ok1 => k_asm); (case ok2 => k_asm); k_whole; intro _ _ _ _ _ _ _ _) | (refine' my_range2 ?ok1 ?ok2 ?_; (case ok1 => k_asm); (case ok2 => k_asm); k_whole; intro _ _ _ _ _ _ _)); (try k_sweep))) | (with_reducible (show wpAny _ _ (callWith _ (Value.ref _) _ _ _) _ _ _; k_here; k_dflt (first | (refine' callWith_K ?ok1 ?ok2 ?_; (case ok1 => k_asm); (case ok2 => k_is); k_whole) | (refine' callWith_K0 ?ok1 ?ok2 ?_; (case ok1 => k_in); (case ok2 => k_is); k_whole)))) | (with_reducible (show wpAny _ _ (eval (PySem.Expr.Name _ _) (compEnvC _ _ _ _)) _ _ _; k_here; k_dflt (first | (refine' ce_local ?oN ?om ?on ?ov ?_ ?oa ?ob; (case oa => rfl); (case ob => rfl); (case on => assumption); (case oN => k_asm); (case om => k_mem); (case ov => assumption); k_whole) | (refine' ce_cell ?oN ?oc ?om ?od ?_ ?oa ?ob; (case oa => rfl); (case ob => rfl); (case oN => k_asm); (case oc => rfl); (case om => k_mem); (case od => k_asm); k_whole) | (refine' ce_K ?oF ?oX ?oT ?oe ?_ ?og ?oa ?ob; (case og => rfl); (case oa => rfl); (case ob => rfl); (case oF => k_asm); (case oX => k_asm); (case oT => k_asm); (case oe => k_is); k_whole) | (refine' ce_B ?oF ?oX ?oT ?oe ?ov ?on ?_ ?og ?ogb ?oa ?ob; (case og => rfl); (case ogb => rfl); (case oa => rfl); (case ob => rfl); (case oF => k_asm); (case oX => k_asm); (case oT => k_asm); (case oe => k_is); (case ov => boot_fast); (case on => decide); k_whole)))) | (with_reducible (show wpAny _ _ (eval (PySem.Expr.Name _ _) _) _ _ _; k_here; k_dflt (first | (refine' nameX_F ?oN ?oc ?om ?od ?_ ?oa ?ob; (case oa => rfl); (case ob => rfl); (case oN => k_asm); (case oc => rfl); (case om => k_mem); (case od => k_asm); k_whole) | (refine' nameX_C ?oN ?oc ?om ?od ?_ ?oa ?ob; (case oa => rfl); (case ob => rfl); (case oN => k_asm); (case oc => rfl); (case om => k_mem); (case od => k_asm); k_whole)))) | walk1 | (dsimp only; walk1)))
  k_dflt (refine' comp_eval ?c ?k ?n ?_; (case c => rfl); (case k => rfl); (case n => decide))
  repeat' (first | (k_unfold; (try dsimp only); repeat (first | clear ek | clear qk)) | ((fail_if_success (with_reducible show wpAny _ _ (subscriptTail _ _ _ _) _ _ _)); (fail_if_success (with_reducible show wpAny _ _ (exec (Stmt.While _ _ _ _) _) _ _ _)); (fail_if_success (with_reducible show wpAny _ _ (exec (Stmt.For _ _ _ _ _) _) _ _ _)); (fail_if_success (with_reducible show wpAny _ _ (eval (Expr.ListComp _ _ _ _) _) _ _ _)); (fail_if_success (with_reducible show wpAny _ _ (exec (Stmt.Assign _ (Expr.ListComp _ _ _ _) _) _) _ _ _)); (fail_if_success (with_reducible show wpAny _ _ (pyIter _) _ _ _)); (fail_if_success (with_reducible show wpAny _ _ (call (Value.ref _) _) _ _ _)); first | ((first | (with_reducible show wpAny _ _ (exec _ _) _ _ _) | ((with_reducible show wpAny _ _ (eval _ _) _ _ _); (fail_if_success (with_reducible show wpAny _ _ (eval (PySem.Expr.Name _ _) _) _ _ _)); (fail_if_success (with_reducible show wpAny _ _ (eval (PySem.Expr.Constant _ _ _) _) _ _ _)); skip)); k_fold) | (with_reducible (show wpAny _ _ (binaryOp Operator.Add (Value.int _ _) (Value.int _ _)) _ _ _; k_here; (refine my_add ?_); intro _ _ _)) | (with_reducible (show wpAny _ _ (binaryOp Operator.Mod (Value.int _ _) (Value.int _ _)) _ _ _; k_here; (refine my_mod (by first | assumption | exact one_add_pos (by assumption) (by assumption) | omega) ?_); intro _ _ _)) | (with_reducible (show wpAny _ _ (binaryOp Operator.Mult (Value.int _ _) (Value.int _ _)) _ _ _; k_here; (refine my_mul (by first | (left; decide) | (right; decide) | (left; assumption) | (right; assumption) | omega) ?_); intro _ _ _)) | (with_reducible (show wpAny _ _ (binaryOp Operator.Sub (Value.int _ _) (Value.int _ _)) _ _ _; k_here; (refine my_sub ?_); intro _ _ _)) | (with_reducible (show wpAny _ _ (call (Value.type "range") _) _ _ _; k_here; k_dflt (first | (refine' my_range1 ?ok1 ?ok2 ?_; (case ok1 => k_asm); (case ok2 => k_asm); k_whole; intro _ _ _ _ _ _ _ _) | (refine' my_range2 ?ok1 ?ok2 ?_; (case ok1 => k_asm); (case ok2 => k_asm); k_whole; intro _ _ _ _ _ _ _)); (try k_sweep))) | (with_reducible (show wpAny _ _ (callWith _ (Value.ref _) _ _ _) _ _ _; k_here; k_dflt (first | (refine' callWith_K ?ok1 ?ok2 ?_; (case ok1 => k_asm); (case ok2 => k_is); k_whole) | (refine' callWith_K0 ?ok1 ?ok2 ?_; (case ok1 => k_in); (case ok2 => k_is); k_whole)))) | (with_reducible (show wpAny _ _ (eval (PySem.Expr.Name _ _) (compEnvC _ _ _ _)) _ _ _; k_here; k_dflt (first | (refine' ce_local ?oN ?om ?on ?ov ?_ ?oa ?ob; (case oa => rfl); (case ob => rfl); (case on => assumption); (case oN => k_asm); (case om => k_mem); (case ov => assumption); k_whole) | (refine' ce_cell ?oN ?oc ?om ?od ?_ ?oa ?ob; (case oa => rfl); (case ob => rfl); (case oN => k_asm); (case oc => rfl); (case om => k_mem); (case od => k_asm); k_whole) | (refine' ce_K ?oF ?oX ?oT ?oe ?_ ?og ?oa ?ob; (case og => rfl); (case oa => rfl); (case ob => rfl); (case oF => k_asm); (case oX => k_asm); (case oT => k_asm); (case oe => k_is); k_whole) | (refine' ce_B ?oF ?oX ?oT ?oe ?ov ?on ?_ ?og ?ogb ?oa ?ob; (case og => rfl); (case ogb => rfl); (case oa => rfl); (case ob => rfl); (case oF => k_asm); (case oX => k_asm); (case oT => k_asm); (case oe => k_is); (case ov => boot_fast); (case on => decide); k_whole)))) | (with_reducible (show wpAny _ _ (eval (PySem.Expr.Name _ _) _) _ _ _; k_here; k_dflt (first | (refine' nameX_F ?oN ?oc ?om ?od ?_ ?oa ?ob; (case oa => rfl); (case ob => rfl); (case oN => k_asm); (case oc => rfl); (case om => k_mem); (case od => k_asm); k_whole) | (refine' nameX_C ?oN ?oc ?om ?od ?_ ?oa ?ob; (case oa => rfl); (case ob => rfl); (case oN => k_asm); (case oc => rfl); (case om => k_mem); (case od => k_asm); k_whole)))) | walk1 | (dsimp only; walk1)))
  rename _ = _ + _ => hv
  rw [cast_succ B] at hv
  subst hv
  k_dflt (refine' comp_range (fun i its led => IntsAre its (((List.range i).filter fun i : Nat => decide ((x * ((i : Int) + 1) + 1) % (b : Int) = 0)).map fun i : Nat => (i : Int) + 1) ∧ led = _) rfl ?hr ?p1 ?p2 ?p3 ?p4 ?p5 rfl rfl ?F ?N ⟨.nil, rfl⟩ ?turn ?done; (case F => k_asm); (case N => k_asm))
  case hr => k_mem
  case p1 => omega
  case p2 => omega
  case p3 => omega
  case p4 => omega
  case p5 => decide
  case turn =>
    rintro I i v its led h tk C oC D9 e o mC E' hin ⟨tv, rfl⟩ ⟨hi, rfl⟩ hl F3 N3 nC hmx sep c1 c2 c3 hso
    clear hlow
    refine wpAny_tests_one ?_
    repeat' (first | (k_unfold; (try dsimp only); repeat (first | clear ek | clear qk)) | ((fail_if_success (with_reducible show wpAny _ _ (subscriptTail _ _ _ _) _ _ _)); (fail_if_success (with_reducible show wpAny _ _ (exec (Stmt.While _ _ _ _) _) _ _ _)); (fail_if_success (with_reducible show wpAny _ _ (exec (Stmt.For _ _ _ _ _) _) _ _ _)); (fail_if_success (with_reducible show wpAny _ _ (eval (Expr.ListComp _ _ _ _) _) _ _ _)); (fail_if_success (with_reducible show wpAny _ _ (exec (Stmt.Assign _ (Expr.ListComp _ _ _ _) _) _) _ _ _)); (fail_if_success (with_reducible show wpAny _ _ (pyIter _) _ _ _)); (fail_if_success (with_reducible show wpAny _ _ (call (Value.ref _) _) _ _ _)); first | ((first | (with_reducible show wpAny _ _ (exec _ _) _ _ _) | ((with_reducible show wpAny _ _ (eval _ _) _ _ _); (fail_if_success (with_reducible show wpAny _ _ (eval (PySem.Expr.Name _ _) _) _ _ _)); (fail_if_success (with_reducible show wpAny _ _ (eval (PySem.Expr.Constant _ _ _) _) _ _ _)); skip)); k_fold) | (with_reducible (show wpAny _ _ (binaryOp Operator.Add (Value.int _ _) (Value.int _ _)) _ _ _; k_here; (refine my_add ?_); intro _ _ _)) | (with_reducible (show wpAny _ _ (binaryOp Operator.Mod (Value.int _ _) (Value.int _ _)) _ _ _; k_here; (refine my_mod (by first | assumption | exact one_add_pos (by assumption) (by assumption) | omega) ?_); intro _ _ _)) | (with_reducible (show wpAny _ _ (binaryOp Operator.Mult (Value.int _ _) (Value.int _ _)) _ _ _; k_here; (refine my_mul (by first | (left; decide) | (right; decide) | (left; assumption) | (right; assumption) | omega) ?_); intro _ _ _)) | (with_reducible (show wpAny _ _ (binaryOp Operator.Sub (Value.int _ _) (Value.int _ _)) _ _ _; k_here; (refine my_sub ?_); intro _ _ _)) | (with_reducible (show wpAny _ _ (call (Value.type "range") _) _ _ _; k_here; k_dflt (first | (refine' my_range1 ?ok1 ?ok2 ?_; (case ok1 => k_asm); (case ok2 => k_asm); k_whole; intro _ _ _ _ _ _ _ _) | (refine' my_range2 ?ok1 ?ok2 ?_; (case ok1 => k_asm); (case ok2 => k_asm); k_whole; intro _ _ _ _ _ _ _)); (try k_sweep))) | (with_reducible (show wpAny _ _ (callWith _ (Value.ref _) _ _ _) _ _ _; k_here; k_dflt (first | (refine' callWith_K ?ok1 ?ok2 ?_; (case ok1 => k_asm); (case ok2 => k_is); k_whole) | (refine' callWith_K0 ?ok1 ?ok2 ?_; (case ok1 => k_in); (case ok2 => k_is); k_whole)))) | (with_reducible (show wpAny _ _ (eval (PySem.Expr.Name _ _) (compEnvC _ _ _ _)) _ _ _; k_here; k_dflt (first | (refine' ce_local ?oN ?om ?on ?ov ?_ ?oa ?ob; (case oa => rfl); (case ob => rfl); (case on => assumption); (case oN => k_asm); (case om => k_mem); (case ov => assumption); k_whole) | (refine' ce_cell ?oN ?oc ?om ?od ?_ ?oa ?ob; (case oa => rfl); (case ob => rfl); (case oN => k_asm); (case oc => rfl); (case om => k_mem); (case od => k_asm); k_whole) | (refine' ce_K ?oF ?oX ?oT ?oe ?_ ?og ?oa ?ob; (case og => rfl); (case oa => rfl); (case ob => rfl); (case oF => k_asm); (case oX => k_asm); (case oT => k_asm); (case oe => k_is); k_whole) | (refine' ce_B ?oF ?oX ?oT ?oe ?ov ?on ?_ ?og ?ogb ?oa ?ob; (case og => rfl); (case ogb => rfl); (case oa => rfl); (case ob => rfl); (case oF => k_asm); (case oX => k_asm); (case oT => k_asm); (case oe => k_is); (case ov => boot_fast); (case on => decide); k_whole)))) | (with_reducible (show wpAny _ _ (eval (PySem.Expr.Name _ _) _) _ _ _; k_here; k_dflt (first | (refine' nameX_F ?oN ?oc ?om ?od ?_ ?oa ?ob; (case oa => rfl); (case ob => rfl); (case oN => k_asm); (case oc => rfl); (case om => k_mem); (case od => k_asm); k_whole) | (refine' nameX_C ?oN ?oc ?om ?od ?_ ?oa ?ob; (case oa => rfl); (case ob => rfl); (case oN => k_asm); (case oc => rfl); (case om => k_mem); (case od => k_asm); k_whole)))) | walk1 | (dsimp only; walk1)))
    · rename _ = _ % _ => hv3
      rename _ = _ * _ => hv1
      rename _ = _ + 1 => hv2
      rename _ = (0 : Int) => hz0
      refine comp_end _ F3 N3 (by k_mem) (by k_mem) (by k_mem) (fun p hp => ⟨by k_mem, sep p hp⟩) ⟨?_, rfl⟩
      have hd9 : decide ((x * ((i : Int) + 1) + 1) % (b : Int) = 0) = true := by
        rw [hv3, hv2, hv1, Int.add_comm 1 (i : Int)] at hz0
        simpa using hz0
      rw [List.range_succ, List.filter_append, List.map_append]
      have e9 : ([i].filter fun i : Nat => decide ((x * ((i : Int) + 1) + 1) % (b : Int) = 0)) = [i] := by simp only [List.filter_cons, hd9, if_true, List.filter_nil]
      rw [e9]
      refine ints_append hi ?_
      show IntsAre [Value.int (1 + (i : Int)) tv] [(i : Int) + 1]
      rw [Int.add_comm]
      exact ints_one _ _
    · rename _ = _ % _ => hv3
      rename _ = _ * _ => hv1
      rename _ = _ + 1 => hv2
      rename _ ≠ (0 : Int) => hz0
      refine comp_end _ F3 N3 (by k_mem) (by k_mem) (by k_mem) (fun p hp => ⟨by k_mem, sep p hp⟩) ⟨?_, rfl⟩
      have hd9 : decide ((x * ((i : Int) + 1) + 1) % (b : Int) = 0) = false := by
        rw [hv3, hv2, hv1, Int.add_comm 1 (i : Int)] at hz0
        simpa using hz0
      rw [List.range_succ, List.filter_append, List.map_append]
      have e9 : ([i].filter fun i : Nat => decide ((x * ((i : Int) + 1) + 1) % (b : Int) = 0)) = [] := by simp only [List.filter_cons, hd9, Bool.false_eq_true, if_false, List.filter_nil]
      rw [e9]
      simpa using hi
  case done =>
    rintro its led h tk C oC D9 e mC ⟨hi, rfl⟩ F3 N3 nC sep hCD
    rw [toNat_succ_pred B] at hi
    refine comp_none F3 N3 nC sep hCD ?_
    intro h4 F4 N4 hneD
    have hlist : ((List.range B).filter fun i : Nat => decide ((x * ((i : Int) + 1) + 1) % (b : Int) = 0)) ≠ [] := by
      obtain ⟨i, h1, h2⟩ := hlow
      exact List.ne_nil_of_mem (List.mem_filter.mpr ⟨List.mem_range.mpr h1, by simpa using h2⟩)
    clear hlow
    have hz := List.getLast?_eq_some_getLast hlist
    have hlow1 : lowOf B x b ≤ B ∧ 1 ≤ lowOf B x b := by
      unfold lowOf
      rw [List.getLastD_eq_getLast?, hz]
      have := List.mem_range.mp (List.mem_filter.mp (List.getLast_mem hlist)).1
      simp only [Option.getD_some]
      omega
    have hlow2 : (((List.range B).filter fun i : Nat => decide ((x * ((i : Int) + 1) + 1) % (b : Int) = 0)).map fun i : Nat => (i : Int) + 1).getLastD 0 = ((lowOf B x b : Nat) : Int) := by
      unfold lowOf
      rw [List.getLastD_eq_getLast?, List.getLastD_eq_getLast?, List.getLast?_map, hz]
      rfl
    repeat' (first | (k_unfold; (try dsimp only); repeat (first | clear ek | clear qk)) | ((fail_if_success (with_reducible show wpAny _ _ (subscriptTail _ _ _ _) _ _ _)); (fail_if_success (with_reducible show wpAny _ _ (exec (Stmt.While _ _ _ _) _) _ _ _)); (fail_if_success (with_reducible show wpAny _ _ (exec (Stmt.For _ _ _ _ _) _) _ _ _)); (fail_if_success (with_reducible show wpAny _ _ (eval (Expr.ListComp _ _ _ _) _) _ _ _)); (fail_if_success (with_reducible show wpAny _ _ (exec (Stmt.Assign _ (Expr.ListComp _ _ _ _) _) _) _ _ _)); (fail_if_success (with_reducible show wpAny _ _ (pyIter _) _ _ _)); (fail_if_success (with_reducible show wpAny _ _ (call (Value.ref _) _) _ _ _)); first | ((first | (with_reducible show wpAny _ _ (exec _ _) _ _ _) | ((with_reducible show wpAny _ _ (eval _ _) _ _ _); (fail_if_success (with_reducible show wpAny _ _ (eval (PySem.Expr.Name _ _) _) _ _ _)); (fail_if_success (with_reducible show wpAny _ _ (eval (PySem.Expr.Constant _ _ _) _) _ _ _)); skip)); k_fold) | (with_reducible (show wpAny _ _ (binaryOp Operator.Add (Value.int _ _) (Value.int _ _)) _ _ _; k_here; (refine my_add ?_); intro _ _ _)) | (with_reducible (show wpAny _ _ (binaryOp Operator.Mod (Value.int _ _) (Value.int _ _)) _ _ _; k_here; (refine my_mod (by first | assumption | exact one_add_pos (by assumption) (by assumption) | omega) ?_); intro _ _ _)) | (with_reducible (show wpAny _ _ (binaryOp Operator.Mult (Value.int _ _) (Value.int _ _)) _ _ _; k_here; (refine my_mul (by first | (left; decide) | (right; decide) | (left; assumption) | (right; assumption) | omega) ?_); intro _ _ _)) | (with_reducible (show wpAny _ _ (binaryOp Operator.Sub (Value.int _ _) (Value.int _ _)) _ _ _; k_here; (refine my_sub ?_); intro _ _ _)) | (with_reducible (show wpAny _ _ (call (Value.type "range") _) _ _ _; k_here; k_dflt (first | (refine' my_range1 ?ok1 ?ok2 ?_; (case ok1 => k_asm); (case ok2 => k_asm); k_whole; intro _ _ _ _ _ _ _ _) | (refine' my_range2 ?ok1 ?ok2 ?_; (case ok1 => k_asm); (case ok2 => k_asm); k_whole; intro _ _ _ _ _ _ _)); (try k_sweep))) | (with_reducible (show wpAny _ _ (callWith _ (Value.ref _) _ _ _) _ _ _; k_here; k_dflt (first | (refine' callWith_K ?ok1 ?ok2 ?_; (case ok1 => k_asm); (case ok2 => k_is); k_whole) | (refine' callWith_K0 ?ok1 ?ok2 ?_; (case ok1 => k_in); (case ok2 => k_is); k_whole)))) | (with_reducible (show wpAny _ _ (eval (PySem.Expr.Name _ _) (compEnvC _ _ _ _)) _ _ _; k_here; k_dflt (first | (refine' ce_local ?oN ?om ?on ?ov ?_ ?oa ?ob; (case oa => rfl); (case ob => rfl); (case on => assumption); (case oN => k_asm); (case om => k_mem); (case ov => assumption); k_whole) | (refine' ce_cell ?oN ?oc ?om ?od ?_ ?oa ?ob; (case oa => rfl); (case ob => rfl); (case oN => k_asm); (case oc => rfl); (case om => k_mem); (case od => k_asm); k_whole) | (refine' ce_K ?oF ?oX ?oT ?oe ?_ ?og ?oa ?ob; (case og => rfl); (case oa => rfl); (case ob => rfl); (case oF => k_asm); (case oX => k_asm); (case oT => k_asm); (case oe => k_is); k_whole) | (refine' ce_B ?oF ?oX ?oT ?oe ?ov ?on ?_ ?og ?ogb ?oa ?ob; (case og => rfl); (case ogb => rfl); (case oa => rfl); (case ob => rfl); (case oF => k_asm); (case oX => k_asm); (case oT => k_asm); (case oe => k_is); (case ov => boot_fast); (case on => decide); k_whole)))) | (with_reducible (show wpAny _ _ (eval (PySem.Expr.Name _ _) _) _ _ _; k_here; k_dflt (first | (refine' nameX_F ?oN ?oc ?om ?od ?_ ?oa ?ob; (case oa => rfl); (case ob => rfl); (case oN => k_asm); (case oc => rfl); (case om => k_mem); (case od => k_asm); k_whole) | (refine' nameX_C ?oN ?oc ?om ?od ?_ ?oa ?ob; (case oa => rfl); (case ob => rfl); (case oN => k_asm); (case oc => rfl); (case om => k_mem); (case od => k_asm); k_whole)))) | walk1 | (dsimp only; walk1)))
    refine kba_turn (value' := PySem.Expr.Name (PySem.Str.ofString "k") ⟨0, 0, 0, 0⟩) (fun _ => rfl) ?_
    k_dflt (refine' sub_last ?q1 ?q2 hi ?q3 ?q4 ?_; (case q1 => k_asm); (case q2 => k_mem); (case q3 => simpa using hlist))
    case q4 =>
      have hq := List.length_filter_le (fun i : Nat => decide ((x * ((i : Int) + 1) + 1) % (b : Int) = 0)) (List.range B)
      rw [List.length_range] at hq
      rw [List.length_map]
      omega
    intro tl
    rw [hlow2]
    clear hlow2 hi hlist hz
    generalize hlo : lowOf B x b = l0 at *
    repeat' (first | (k_unfold; (try dsimp only); repeat (first | clear ek | clear qk)) | ((fail_if_success (with_reducible show wpAny _ _ (subscriptTail _ _ _ _) _ _ _)); (fail_if_success (with_reducible show wpAny _ _ (exec (Stmt.While _ _ _ _) _) _ _ _)); (fail_if_success (with_reducible show wpAny _ _ (exec (Stmt.For _ _ _ _ _) _) _ _ _)); (fail_if_success (with_reducible show wpAny _ _ (eval (Expr.ListComp _ _ _ _) _) _ _ _)); (fail_if_success (with_reducible show wpAny _ _ (exec (Stmt.Assign _ (Expr.ListComp _ _ _ _) _) _) _ _ _)); (fail_if_success (with_reducible show wpAny _ _ (pyIter _) _ _ _)); (fail_if_success (with_reducible show wpAny _ _ (call (Value.ref _) _) _ _ _)); first | ((first | (with_reducible show wpAny _ _ (exec _ _) _ _ _) | ((with_reducible show wpAny _ _ (eval _ _) _ _ _); (fail_if_success (with_reducible show wpAny _ _ (eval (PySem.Expr.Name _ _) _) _ _ _)); (fail_if_success (with_reducible show wpAny _ _ (eval (PySem.Expr.Constant _ _ _) _) _ _ _)); skip)); k_fold) | (with_reducible (show wpAny _ _ (binaryOp Operator.Add (Value.int _ _) (Value.int _ _)) _ _ _; k_here; (refine my_add ?_); intro _ _ _)) | (with_reducible (show wpAny _ _ (binaryOp Operator.Mod (Value.int _ _) (Value.int _ _)) _ _ _; k_here; (refine my_mod (by first | assumption | exact one_add_pos (by assumption) (by assumption) | omega) ?_); intro _ _ _)) | (with_reducible (show wpAny _ _ (binaryOp Operator.Mult (Value.int _ _) (Value.int _ _)) _ _ _; k_here; (refine my_mul (by first | (left; decide) | (right; decide) | (left; assumption) | (right; assumption) | omega) ?_); intro _ _ _)) | (with_reducible (show wpAny _ _ (binaryOp Operator.Sub (Value.int _ _) (Value.int _ _)) _ _ _; k_here; (refine my_sub ?_); intro _ _ _)) | (with_reducible (show wpAny _ _ (call (Value.type "range") _) _ _ _; k_here; k_dflt (first | (refine' my_range1 ?ok1 ?ok2 ?_; (case ok1 => k_asm); (case ok2 => k_asm); k_whole; intro _ _ _ _ _ _ _ _) | (refine' my_range2 ?ok1 ?ok2 ?_; (case ok1 => k_asm); (case ok2 => k_asm); k_whole; intro _ _ _ _ _ _ _)); (try k_sweep))) | (with_reducible (show wpAny _ _ (callWith _ (Value.ref _) _ _ _) _ _ _; k_here; k_dflt (first | (refine' callWith_K ?ok1 ?ok2 ?_; (case ok1 => k_asm); (case ok2 => k_is); k_whole) | (refine' callWith_K0 ?ok1 ?ok2 ?_; (case ok1 => k_in); (case ok2 => k_is); k_whole)))) | (with_reducible (show wpAny _ _ (eval (PySem.Expr.Name _ _) (compEnvC _ _ _ _)) _ _ _; k_here; k_dflt (first | (refine' ce_local ?oN ?om ?on ?ov ?_ ?oa ?ob; (case oa => rfl); (case ob => rfl); (case on => assumption); (case oN => k_asm); (case om => k_mem); (case ov => assumption); k_whole) | (refine' ce_cell ?oN ?oc ?om ?od ?_ ?oa ?ob; (case oa => rfl); (case ob => rfl); (case oN => k_asm); (case oc => rfl); (case om => k_mem); (case od => k_asm); k_whole) | (refine' ce_K ?oF ?oX ?oT ?oe ?_ ?og ?oa ?ob; (case og => rfl); (case oa => rfl); (case ob => rfl); (case oF => k_asm); (case oX => k_asm); (case oT => k_asm); (case oe => k_is); k_whole) | (refine' ce_B ?oF ?oX ?oT ?oe ?ov ?on ?_ ?og ?ogb ?oa ?ob; (case og => rfl); (case ogb => rfl); (case oa => rfl); (case ob => rfl); (case oF => k_asm); (case oX => k_asm); (case oT => k_asm); (case oe => k_is); (case ov => boot_fast); (case on => decide); k_whole)))) | (with_reducible (show wpAny _ _ (eval (PySem.Expr.Name _ _) _) _ _ _; k_here; k_dflt (first | (refine' nameX_F ?oN ?oc ?om ?od ?_ ?oa ?ob; (case oa => rfl); (case ob => rfl); (case oN => k_asm); (case oc => rfl); (case om => k_mem); (case od => k_asm); k_whole) | (refine' nameX_C ?oN ?oc ?om ?od ?_ ?oa ?ob; (case oa => rfl); (case ob => rfl); (case oN => k_asm); (case oc => rfl); (case om => k_mem); (case od => k_asm); k_whole)))) | walk1 | (dsimp only; walk1)))
    rename _ = _ + 1 => hv2
    rename _ = _ * _ => hv1
    have hxl : -(2 ^ 20 * 100) ≤ x * (l0 : Int) ∧ x * (l0 : Int) ≤ 2 ^ 20 * 100 := by
      exact box100 hx1 hx2 (Nat.le_trans hlow1.1 hB)
    rw [hv1] at hv2
    subst hv2
    refine Spec.use (quotient_spec w (x * l0 + 1) b W _ _ (box39 hxl).1 (box39 hxl).2 hb (Nat.lt_of_le_of_lt (Nat.le_trans hb2 hB) (by decide))) (by k_asm) (by k_asm) (by k_asm) (by k_asm) (by k_asm) rfl (by ktr_room) (by ktr_units) (hpre.sub fun q hq => by k_mem) ?_
    rintro r9 news9 h9 tk9 F9 N9 ⟨t9, rfl, hkept9⟩
    repeat' (first | (k_unfold; (try dsimp only); repeat (first | clear ek | clear qk)) | ((fail_if_success (with_reducible show wpAny _ _ (subscriptTail _ _ _ _) _ _ _)); (fail_if_success (with_reducible show wpAny _ _ (exec (Stmt.While _ _ _ _) _) _ _ _)); (fail_if_success (with_reducible show wpAny _ _ (exec (Stmt.For _ _ _ _ _) _) _ _ _)); (fail_if_success (with_reducible show wpAny _ _ (eval (Expr.ListComp _ _ _ _) _) _ _ _)); (fail_if_success (with_reducible show wpAny _ _ (exec (Stmt.Assign _ (Expr.ListComp _ _ _ _) _) _) _ _ _)); (fail_if_success (with_reducible show wpAny _ _ (pyIter _) _ _ _)); (fail_if_success (with_reducible show wpAny _ _ (call (Value.ref _) _) _ _ _)); first | ((first | (with_reducible show wpAny _ _ (exec _ _) _ _ _) | ((with_reducible show wpAny _ _ (eval _ _) _ _ _); (fail_if_success (with_reducible show wpAny _ _ (eval (PySem.Expr.Name _ _) _) _ _ _)); (fail_if_success (with_reducible show wpAny _ _ (eval (PySem.Expr.Constant _ _ _) _) _ _ _)); skip)); k_fold) | (with_reducible (show wpAny _ _ (binaryOp Operator.Add (Value.int _ _) (Value.int _ _)) _ _ _; k_here; (refine my_add ?_); intro _ _ _)) | (with_reducible (show wpAny _ _ (binaryOp Operator.Mod (Value.int _ _) (Value.int _ _)) _ _ _; k_here; (refine my_mod (by first | assumption | exact one_add_pos (by assumption) (by assumption) | omega) ?_); intro _ _ _)) | (with_reducible (show wpAny _ _ (binaryOp Operator.Mult (Value.int _ _) (Value.int _ _)) _ _ _; k_here; (refine my_mul (by first | (left; decide) | (right; decide) | (left; assumption) | (right; assumption) | omega) ?_); intro _ _ _)) | (with_reducible (show wpAny _ _ (binaryOp Operator.Sub (Value.int _ _) (Value.int _ _)) _ _ _; k_here; (refine my_sub ?_); intro _ _ _)) | (with_reducible (show wpAny _ _ (call (Value.type "range") _) _ _ _; k_here; k_dflt (first | (refine' my_range1 ?ok1 ?ok2 ?_; (case ok1 => k_asm); (case ok2 => k_asm); k_whole; intro _ _ _ _ _ _ _ _) | (refine' my_range2 ?ok1 ?ok2 ?_; (case ok1 => k_asm); (case ok2 => k_asm); k_whole; intro _ _ _ _ _ _ _)); (try k_sweep))) | (with_reducible (show wpAny _ _ (callWith _ (Value.ref _) _ _ _) _ _ _; k_here; k_dflt (first | (refine' callWith_K ?ok1 ?ok2 ?_; (case ok1 => k_asm); (case ok2 => k_is); k_whole) | (refine' callWith_K0 ?ok1 ?ok2 ?_; (case ok1 => k_in); (case ok2 => k_is); k_whole)))) | (with_reducible (show wpAny _ _ (eval (PySem.Expr.Name _ _) (compEnvC _ _ _ _)) _ _ _; k_here; k_dflt (first | (refine' ce_local ?oN ?om ?on ?ov ?_ ?oa ?ob; (case oa => rfl); (case ob => rfl); (case on => assumption); (case oN => k_asm); (case om => k_mem); (case ov => assumption); k_whole) | (refine' ce_cell ?oN ?oc ?om ?od ?_ ?oa ?ob; (case oa => rfl); (case ob => rfl); (case oN => k_asm); (case oc => rfl); (case om => k_mem); (case od => k_asm); k_whole) | (refine' ce_K ?oF ?oX ?oT ?oe ?_ ?og ?oa ?ob; (case og => rfl); (case oa => rfl); (case ob => rfl); (case oF => k_asm); (case oX => k_asm); (case oT => k_asm); (case oe => k_is); k_whole) | (refine' ce_B ?oF ?oX ?oT ?oe ?ov ?on ?_ ?og ?ogb ?oa ?ob; (case og => rfl); (case ogb => rfl); (case oa => rfl); (case ob => rfl); (case oF => k_asm); (case oX => k_asm); (case oT => k_asm); (case oe => k_is); (case ov => boot_fast); (case on => decide); k_whole)))) | (with_reducible (show wpAny _ _ (eval (PySem.Expr.Name _ _) _) _ _ _; k_here; k_dflt (first | (refine' nameX_F ?oN ?oc ?om ?od ?_ ?oa ?ob; (case oa => rfl); (case ob => rfl); (case oN => k_asm); (case oc => rfl); (case om => k_mem); (case od => k_asm); k_whole) | (refine' nameX_C ?oN ?oc ?om ?od ?_ ?oa ?ob; (case oa => rfl); (case ob => rfl); (case oN => k_asm); (case oc => rfl); (case om => k_mem); (case od => k_asm); k_whole)))) | walk1 | (dsimp only; walk1)))
    (first | (with_reducible (show wpAny _ _ (binaryOp Operator.Add (Value.int _ _) (Value.int _ _)) _ _ _; k_here; (refine my_add ?_); intro _ _ _)) | (with_reducible (show wpAny _ _ (binaryOp Operator.Mod (Value.int _ _) (Value.int _ _)) _ _ _; k_here; (refine my_mod (by first | assumption | exact one_add_pos (by assumption) (by assumption) | omega) ?_); intro _ _ _)) | (with_reducible (show wpAny _ _ (binaryOp Operator.Mult (Value.int _ _) (Value.int _ _)) _ _ _; k_here; (refine my_mul (by first | (left; decide) | (right; decide) | (left; assumption) | (right; assumption) | omega) ?_); intro _ _ _)) | (with_reducible (show wpAny _ _ (binaryOp Operator.Sub (Value.int _ _) (Value.int _ _)) _ _ _; k_here; (refine my_sub ?_); intro _ _ _)) | (with_reducible (show wpAny _ _ (call (Value.type "range") _) _ _ _; k_here; k_dflt (first | (refine' my_range1 ?ok1 ?ok2 ?_; (case ok1 => k_asm); (case ok2 => k_asm); k_whole; intro _ _ _ _ _ _ _ _) | (refine' my_range2 ?ok1 ?ok2 ?_; (case ok1 => k_asm); (case ok2 => k_asm); k_whole; intro _ _ _ _ _ _ _)); (try k_sweep))) | (with_reducible (show wpAny _ _ (callWith _ (Value.ref _) _ _ _) _ _ _; k_here; k_dflt (first | (refine' callWith_K ?ok1 ?ok2 ?_; (case ok1 => k_asm); (case ok2 => k_is); k_whole) | (refine' callWith_K0 ?ok1 ?ok2 ?_; (case ok1 => k_in); (case ok2 => k_is); k_whole)))) | (with_reducible (show wpAny _ _ (eval (PySem.Expr.Name _ _) (compEnvC _ _ _ _)) _ _ _; k_here; k_dflt (first | (refine' ce_local ?oN ?om ?on ?ov ?_ ?oa ?ob; (case oa => rfl); (case ob => rfl); (case on => assumption); (case oN => k_asm); (case om => k_mem); (case ov => assumption); k_whole) | (refine' ce_cell ?oN ?oc ?om ?od ?_ ?oa ?ob; (case oa => rfl); (case ob => rfl); (case oN => k_asm); (case oc => rfl); (case om => k_mem); (case od => k_asm); k_whole) | (refine' ce_K ?oF ?oX ?oT ?oe ?_ ?og ?oa ?ob; (case og => rfl); (case oa => rfl); (case ob => rfl); (case oF => k_asm); (case oX => k_asm); (case oT => k_asm); (case oe => k_is); k_whole) | (refine' ce_B ?oF ?oX ?oT ?oe ?ov ?on ?_ ?og ?ogb ?oa ?ob; (case og => rfl); (case ogb => rfl); (case oa => rfl); (case ob => rfl); (case oF => k_asm); (case oX => k_asm); (case oT => k_asm); (case oe => k_is); (case ov => boot_fast); (case on => decide); k_whole)))) | (with_reducible (show wpAny _ _ (eval (PySem.Expr.Name _ _) _) _ _ _; k_here; k_dflt (first | (refine' nameX_F ?oN ?oc ?om ?od ?_ ?oa ?ob; (case oa => rfl); (case ob => rfl); (case oN => k_asm); (case oc => rfl); (case om => k_mem); (case od => k_asm); k_whole) | (refine' nameX_C ?oN ?oc ?om ?od ?_ ?oa ?ob; (case oa => rfl); (case ob => rfl); (case oN => k_asm); (case oc => rfl); (case om => k_mem); (case od => k_asm); k_whole)))) | walk1)
    repeat' (first | (k_unfold; (try dsimp only); repeat (first | clear ek | clear qk)) | ((fail_if_success (with_reducible show wpAny _ _ (subscriptTail _ _ _ _) _ _ _)); (fail_if_success (with_reducible show wpAny _ _ (exec (Stmt.While _ _ _ _) _) _ _ _)); (fail_if_success (with_reducible show wpAny _ _ (exec (Stmt.For _ _ _ _ _) _) _ _ _)); (fail_if_success (with_reducible show wpAny _ _ (eval (Expr.ListComp _ _ _ _) _) _ _ _)); (fail_if_success (with_reducible show wpAny _ _ (exec (Stmt.Assign _ (Expr.ListComp _ _ _ _) _) _) _ _ _)); (fail_if_success (with_reducible show wpAny _ _ (pyIter _) _ _ _)); (fail_if_success (with_reducible show wpAny _ _ (call (Value.ref _) _) _ _ _)); first | ((first | (with_reducible show wpAny _ _ (exec _ _) _ _ _) | ((with_reducible show wpAny _ _ (eval _ _) _ _ _); (fail_if_success (with_reducible show wpAny _ _ (eval (PySem.Expr.Name _ _) _) _ _ _)); (fail_if_success (with_reducible show wpAny _ _ (eval (PySem.Expr.Constant _ _ _) _) _ _ _)); skip)); k_fold) | (with_reducible (show wpAny _ _ (binaryOp Operator.Add (Value.int _ _) (Value.int _ _)) _ _ _; k_here; (refine my_add ?_); intro _ _ _)) | (with_reducible (show wpAny _ _ (binaryOp Operator.Mod (Value.int _ _) (Value.int _ _)) _ _ _; k_here; (refine my_mod (by first | assumption | exact one_add_pos (by assumption) (by assumption) | omega) ?_); intro _ _ _)) | (with_reducible (show wpAny _ _ (binaryOp Operator.Mult (Value.int _ _) (Value.int _ _)) _ _ _; k_here; (refine my_mul (by first | (left; decide) | (right; decide) | (left; assumption) | (right; assumption) | omega) ?_); intro _ _ _)) | (with_reducible (show wpAny _ _ (binaryOp Operator.Sub (Value.int _ _) (Value.int _ _)) _ _ _; k_here; (refine my_sub ?_); intro _ _ _)) | (with_reducible (show wpAny _ _ (call (Value.type "range") _) _ _ _; k_here; k_dflt (first | (refine' my_range1 ?ok1 ?ok2 ?_; (case ok1 => k_asm); (case ok2 => k_asm); k_whole; intro _ _ _ _ _ _ _ _) | (refine' my_range2 ?ok1 ?ok2 ?_; (case ok1 => k_asm); (case ok2 => k_asm); k_whole; intro _ _ _ _ _ _ _)); (try k_sweep))) | (with_reducible (show wpAny _ _ (callWith _ (Value.ref _) _ _ _) _ _ _; k_here; k_dflt (first | (refine' callWith_K ?ok1 ?ok2 ?_; (case ok1 => k_asm); (case ok2 => k_is); k_whole) | (refine' callWith_K0 ?ok1 ?ok2 ?_; (case ok1 => k_in); (case ok2 => k_is); k_whole)))) | (with_reducible (show wpAny _ _ (eval (PySem.Expr.Name _ _) (compEnvC _ _ _ _)) _ _ _; k_here; k_dflt (first | (refine' ce_local ?oN ?om ?on ?ov ?_ ?oa ?ob; (case oa => rfl); (case ob => rfl); (case on => assumption); (case oN => k_asm); (case om => k_mem); (case ov => assumption); k_whole) | (refine' ce_cell ?oN ?oc ?om ?od ?_ ?oa ?ob; (case oa => rfl); (case ob => rfl); (case oN => k_asm); (case oc => rfl); (case om => k_mem); (case od => k_asm); k_whole) | (refine' ce_K ?oF ?oX ?oT ?oe ?_ ?og ?oa ?ob; (case og => rfl); (case oa => rfl); (case ob => rfl); (case oF => k_asm); (case oX => k_asm); (case oT => k_asm); (case oe => k_is); k_whole) | (refine' ce_B ?oF ?oX ?oT ?oe ?ov ?on ?_ ?og ?ogb ?oa ?ob; (case og => rfl); (case ogb => rfl); (case oa => rfl); (case ob => rfl); (case oF => k_asm); (case oX => k_asm); (case oT => k_asm); (case oe => k_is); (case ov => boot_fast); (case on => decide); k_whole)))) | (with_reducible (show wpAny _ _ (eval (PySem.Expr.Name _ _) _) _ _ _; k_here; k_dflt (first | (refine' nameX_F ?oN ?oc ?om ?od ?_ ?oa ?ob; (case oa => rfl); (case ob => rfl); (case oN => k_asm); (case oc => rfl); (case om => k_mem); (case od => k_asm); k_whole) | (refine' nameX_C ?oN ?oc ?om ?od ?_ ?oa ?ob; (case oa => rfl); (case ob => rfl); (case oN => k_asm); (case oc => rfl); (case om => k_mem); (case od => k_asm); k_whole)))) | walk1 | (dsimp only; walk1)))
    rename Fr _ _ _ _ => lF
    rename News _ _ _ _ => lN
    rename_i Lt _ hltA _ _ _ _ _ _ _ _ _ _ _ _
    have hl9 : ∀ p ∈ news, Solid p.2 → p ∈ news9 := fun p hp hs => hkept9.2 p (by k_mem) hs
    have ho1 : (L' + 1, o1) ∈ news9 := hkept9.2 _ (by k_mem) (.of_data (cell_not_fields d1))
    have ho2 : (L' + 1 + 1, o2) ∈ news9 := hkept9.2 _ (by k_mem) (.of_data (cell_not_fields d2))
    refine' for_rangeO (σ := Int × Int × Nat × Nat × Tok × Tok × List Addr × List (Int × Int)) (fun c => [(Str.ofString "high", .int c.2.1 c.2.2.2.2.1), (Str.ofString "low", .int c.2.2.2.1 c.2.2.2.2.2.1)]) [Str.ofString "turn", Str.ofString "often", Str.ofString "times"] (fun i c led => TI news L' Lt c.1 c.2.2.1 c.2.2.2.2.2.2.1 c.2.2.2.2.2.2.2 led ∧ c.2.2.2.2.2.2.2 ++ toldLoop B (7 - i) c.1 c.2.1 c.2.2.1 c.2.2.2.1 = toldP B x b ∧ c.2.2.2.2.2.2.2.length ≤ 100 * i ∧ 1 ≤ c.2.2.1 ∧ c.2.2.1 ≤ B ∧ 1 ≤ c.2.2.2.1 ∧ c.2.2.2.1 ≤ B) (x, (x * l0 + 1) / b, b, l0, t9, tl, [], []) rfl ?hr ?h1 ?h2 ?h3 ?h4 lF lN ?kk ?k0 ?turn ?done
    case hr => k_mem
    case h1 => decide
    case h2 => decide
    case h3 => decide
    case h4 => decide
    case kk => kst_all
    case k0 =>
      refine ⟨⟨⟨o1, t2, by k_mem, d1⟩, ⟨o2, t3, by k_mem, d2⟩, ⟨0, by k_mem⟩, .nil, hkept9.1.sub fun q hq => by k_mem, fun p hp hs => ⟨?_, ?_, ?_, ?_⟩⟩, ?_, Nat.le_refl _, hb, hb2, hlow1.2, hlow1.1⟩
      · have := hl9 p hp hs
        k_mem
      · exact Nat.ne_of_lt (hltA p (hl9 p hp hs))
      · exact Nat.ne_of_lt (Nat.lt_succ_of_lt (l1 p hp))
      · exact Nat.ne_of_lt (Nat.lt_succ_of_lt (Nat.lt_succ_of_lt (l1 p hp)))
      · show toldLoop B 7 x _ b l0 = _
        unfold toldP
        rw [hlo]
    case done =>
      rintro ⟨x', h', b', l', th, tl', as, acc⟩ u led hp tkd ⟨hT, hacc, hlen, hb1, hbB, hl1, hlB⟩ F3 N3
      dsimp only at hT hacc hlen hb1 hbB hl1 hlB
      dsimp only [kstB] at F3
      (try k_fold)
      obtain ⟨e9, hLt⟩ := hT.told
      repeat' (first | (k_unfold; (try dsimp only); repeat (first | clear ek | clear qk)) | ((fail_if_success (with_reducible show wpAny _ _ (subscriptTail _ _ _ _) _ _ _)); (fail_if_success (with_reducible show wpAny _ _ (exec (Stmt.While _ _ _ _) _) _ _ _)); (fail_if_success (with_reducible show wpAny _ _ (exec (Stmt.For _ _ _ _ _) _) _ _ _)); (fail_if_success (with_reducible show wpAny _ _ (eval (Expr.ListComp _ _ _ _) _) _ _ _)); (fail_if_success (with_reducible show wpAny _ _ (exec (Stmt.Assign _ (Expr.ListComp _ _ _ _) _) _) _ _ _)); (fail_if_success (with_reducible show wpAny _ _ (pyIter _) _ _ _)); (fail_if_success (with_reducible show wpAny _ _ (call (Value.ref _) _) _ _ _)); first | ((first | (with_reducible show wpAny _ _ (exec _ _) _ _ _) | ((with_reducible show wpAny _ _ (eval _ _) _ _ _); (fail_if_success (with_reducible show wpAny _ _ (eval (PySem.Expr.Name _ _) _) _ _ _)); (fail_if_success (with_reducible show wpAny _ _ (eval (PySem.Expr.Constant _ _ _) _) _ _ _)); skip)); k_fold) | (with_reducible (show wpAny _ _ (binaryOp Operator.Add (Value.int _ _) (Value.int _ _)) _ _ _; k_here; (refine my_add ?_); intro _ _ _)) | (with_reducible (show wpAny _ _ (binaryOp Operator.Mod (Value.int _ _) (Value.int _ _)) _ _ _; k_here; (refine my_mod (by first | assumption | exact one_add_pos (by assumption) (by assumption) | omega) ?_); intro _ _ _)) | (with_reducible (show wpAny _ _ (binaryOp Operator.Mult (Value.int _ _) (Value.int _ _)) _ _ _; k_here; (refine my_mul (by first | (left; decide) | (right; decide) | (left; assumption) | (right; assumption) | omega) ?_); intro _ _ _)) | (with_reducible (show wpAny _ _ (binaryOp Operator.Sub (Value.int _ _) (Value.int _ _)) _ _ _; k_here; (refine my_sub ?_); intro _ _ _)) | (with_reducible (show wpAny _ _ (call (Value.type "range") _) _ _ _; k_here; k_dflt (first | (refine' my_range1 ?ok1 ?ok2 ?_; (case ok1 => k_asm); (case ok2 => k_asm); k_whole; intro _ _ _ _ _ _ _ _) | (refine' my_range2 ?ok1 ?ok2 ?_; (case ok1 => k_asm); (case ok2 => k_asm); k_whole; intro _ _ _ _ _ _ _)); (try k_sweep))) | (with_reducible (show wpAny _ _ (callWith _ (Value.ref _) _ _ _) _ _ _; k_here; k_dflt (first | (refine' callWith_K ?ok1 ?ok2 ?_; (case ok1 => k_asm); (case ok2 => k_is); k_whole) | (refine' callWith_K0 ?ok1 ?ok2 ?_; (case ok1 => k_in); (case ok2 => k_is); k_whole)))) | (with_reducible (show wpAny _ _ (eval (PySem.Expr.Name _ _) (compEnvC _ _ _ _)) _ _ _; k_here; k_dflt (first | (refine' ce_local ?oN ?om ?on ?ov ?_ ?oa ?ob; (case oa => rfl); (case ob => rfl); (case on => assumption); (case oN => k_asm); (case om => k_mem); (case ov => assumption); k_whole) | (refine' ce_cell ?oN ?oc ?om ?od ?_ ?oa ?ob; (case oa => rfl); (case ob => rfl); (case oN => k_asm); (case oc => rfl); (case om => k_mem); (case od => k_asm); k_whole) | (refine' ce_K ?oF ?oX ?oT ?oe ?_ ?og ?oa ?ob; (case og => rfl); (case oa => rfl); (case ob => rfl); (case oF => k_asm); (case oX => k_asm); (case oT => k_asm); (case oe => k_is); k_whole) | (refine' ce_B ?oF ?oX ?oT ?oe ?ov ?on ?_ ?og ?ogb ?oa ?ob; (case og => rfl); (case ogb => rfl); (case oa => rfl); (case ob => rfl); (case oF => k_asm); (case oX => k_asm); (case oT => k_asm); (case oe => k_is); (case ov => boot_fast); (case on => decide); k_whole)))) | (with_reducible (show wpAny _ _ (eval (PySem.Expr.Name _ _) _) _ _ _; k_here; k_dflt (first | (refine' nameX_F ?oN ?oc ?om ?od ?_ ?oa ?ob; (case oa => rfl); (case ob => rfl); (case oN => k_asm); (case oc => rfl); (case om => k_mem); (case od => k_asm); k_whole) | (refine' nameX_C ?oN ?oc ?om ?od ?_ ?oa ?ob; (case oa => rfl); (case ob => rfl); (case oN => k_asm); (case oc => rfl); (case om => k_mem); (case od => k_asm); k_whole)))) | walk1 | (dsimp only; walk1)))
      refine hret _ _ _ _ (by assumption) (by assumption) ⟨Lt, as, e9, rfl, by k_mem, ?_, hT.tabs.sub fun q hq => by k_mem, fun p hp hs => ?_⟩
      · rw [← hacc]
        show PairsAre _ _ (acc ++ [])
        rw [List.append_nil]
        exact hT.pairs.mono fun a p q tp tq h => by k_mem
      · have := (hT.keep p hp hs).1
        k_mem
    case turn =>
      rintro I i tu ⟨x', h', b', l', th, tl', as, acc⟩ u led hp tkd o hso hi ⟨hT, hacc, hlen, hb1, hbB, hl1, hlB⟩ hneI F3 N3
      dsimp only at hT hacc hlen hb1 hbB hl1 hlB
      dsimp only [kstB] at F3
      (try k_fold)
      have hT0 := hT.sub (led' := (I, o) :: led) fun q hq => by k_mem
      obtain ⟨⟨p1, s1, m1, e1⟩, ⟨p2, s2, m2, e2⟩, ⟨e9, hLt⟩, hpr, htb, hkp⟩ := hT
      repeat' (first | (k_unfold; (try dsimp only); repeat (first | clear ek | clear qk)) | ((fail_if_success (with_reducible show wpAny _ _ (subscriptTail _ _ _ _) _ _ _)); (fail_if_success (with_reducible show wpAny _ _ (exec (Stmt.While _ _ _ _) _) _ _ _)); (fail_if_success (with_reducible show wpAny _ _ (exec (Stmt.For _ _ _ _ _) _) _ _ _)); (fail_if_success (with_reducible show wpAny _ _ (eval (Expr.ListComp _ _ _ _) _) _ _ _)); (fail_if_success (with_reducible show wpAny _ _ (exec (Stmt.Assign _ (Expr.ListComp _ _ _ _) _) _) _ _ _)); (fail_if_success (with_reducible show wpAny _ _ (pyIter _) _ _ _)); (fail_if_success (with_reducible show wpAny _ _ (call (Value.ref _) _) _ _ _)); first | ((first | (with_reducible show wpAny _ _ (exec _ _) _ _ _) | ((with_reducible show wpAny _ _ (eval _ _) _ _ _); (fail_if_success (with_reducible show wpAny _ _ (eval (PySem.Expr.Name _ _) _) _ _ _)); (fail_if_success (with_reducible show wpAny _ _ (eval (PySem.Expr.Constant _ _ _) _) _ _ _)); skip)); k_fold) | (with_reducible (show wpAny _ _ (binaryOp Operator.Add (Value.int _ _) (Value.int _ _)) _ _ _; k_here; (refine my_add ?_); intro _ _ _)) | (with_reducible (show wpAny _ _ (binaryOp Operator.Mod (Value.int _ _) (Value.int _ _)) _ _ _; k_here; (refine my_mod (by first | assumption | exact one_add_pos (by assumption) (by assumption) | omega) ?_); intro _ _ _)) | (with_reducible (show wpAny _ _ (binaryOp Operator.Mult (Value.int _ _) (Value.int _ _)) _ _ _; k_here; (refine my_mul (by first | (left; decide) | (right; decide) | (left; assumption) | (right; assumption) | omega) ?_); intro _ _ _)) | (with_reducible (show wpAny _ _ (binaryOp Operator.Sub (Value.int _ _) (Value.int _ _)) _ _ _; k_here; (refine my_sub ?_); intro _ _ _)) | (with_reducible (show wpAny _ _ (call (Value.type "range") _) _ _ _; k_here; k_dflt (first | (refine' my_range1 ?ok1 ?ok2 ?_; (case ok1 => k_asm); (case ok2 => k_asm); k_whole; intro _ _ _ _ _ _ _ _) | (refine' my_range2 ?ok1 ?ok2 ?_; (case ok1 => k_asm); (case ok2 => k_asm); k_whole; intro _ _ _ _ _ _ _)); (try k_sweep))) | (with_reducible (show wpAny _ _ (callWith _ (Value.ref _) _ _ _) _ _ _; k_here; k_dflt (first | (refine' callWith_K ?ok1 ?ok2 ?_; (case ok1 => k_asm); (case ok2 => k_is); k_whole) | (refine' callWith_K0 ?ok1 ?ok2 ?_; (case ok1 => k_in); (case ok2 => k_is); k_whole)))) | (with_reducible (show wpAny _ _ (eval (PySem.Expr.Name _ _) (compEnvC _ _ _ _)) _ _ _; k_here; k_dflt (first | (refine' ce_local ?oN ?om ?on ?ov ?_ ?oa ?ob; (case oa => rfl); (case ob => rfl); (case on => assumption); (case oN => k_asm); (case om => k_mem); (case ov => assumption); k_whole) | (refine' ce_cell ?oN ?oc ?om ?od ?_ ?oa ?ob; (case oa => rfl); (case ob => rfl); (case oN => k_asm); (case oc => rfl); (case om => k_mem); (case od => k_asm); k_whole) | (refine' ce_K ?oF ?oX ?oT ?oe ?_ ?og ?oa ?ob; (case og => rfl); (case oa => rfl); (case ob => rfl); (case oF => k_asm); (case oX => k_asm); (case oT => k_asm); (case oe => k_is); k_whole) | (refine' ce_B ?oF ?oX ?oT ?oe ?ov ?on ?_ ?og ?ogb ?oa ?ob; (case og => rfl); (case ogb => rfl); (case oa => rfl); (case ob => rfl); (case oF => k_asm); (case oX => k_asm); (case oT => k_asm); (case oe => k_is); (case ov => boot_fast); (case on => decide); k_whole)))) | (with_reducible (show wpAny _ _ (eval (PySem.Expr.Name _ _) _) _ _ _; k_here; k_dflt (first | (refine' nameX_F ?oN ?oc ?om ?od ?_ ?oa ?ob; (case oa => rfl); (case ob => rfl); (case oN => k_asm); (case oc => rfl); (case om => k_mem); (case od => k_asm); k_whole) | (refine' nameX_C ?oN ?oc ?om ?od ?_ ?oa ?ob; (case oa => rfl); (case ob => rfl); (case oN => k_asm); (case oc => rfl); (case om => k_mem); (case od => k_asm); k_whole)))) | walk1 | (dsimp only; walk1)))
      refine Spec.use (quotient_spec w B b' W _ _ (neg39 _) (nat39 hB (by decide)) hb1 (Nat.lt_of_le_of_lt (Nat.le_trans hbB hB) (by decide))) (by k_asm) (by k_asm) (by k_asm) (by k_asm) (by k_asm) rfl (by ktr_room) (by ktr_units) hT0.tabs ?_
      rintro r8 news8 h8 tk8 F8 N8 ⟨t8, rfl, hkept8⟩
      have hT8 := hT0.kept hkept8
      have hI8 : (I, o) ∈ news8 := hkept8.2 _ (by k_mem) (solid_it hso)
      rw [show (B : Int) / (b' : Int) = ((B / b' : Nat) : Int) from by simp]
      have hBb : B / b' ≤ 100 := Nat.le_trans (Nat.div_le_self _ _) hB
      generalize hk8 : B / b' = k8 at *
      have hT8' := hT8
      obtain ⟨⟨q1, u1, n1, f1⟩, ⟨q2, u2, n2, f2⟩, ⟨e8, hLt8⟩, hpr8, htb8, hkp8⟩ := hT8
      repeat' (first | (k_unfold; (try dsimp only); repeat (first | clear ek | clear qk)) | ((fail_if_success (with_reducible show wpAny _ _ (subscriptTail _ _ _ _) _ _ _)); (fail_if_success (with_reducible show wpAny _ _ (exec (Stmt.While _ _ _ _) _) _ _ _)); (fail_if_success (with_reducible show wpAny _ _ (exec (Stmt.For _ _ _ _ _) _) _ _ _)); (fail_if_success (with_reducible show wpAny _ _ (eval (Expr.ListComp _ _ _ _) _) _ _ _)); (fail_if_success (with_reducible show wpAny _ _ (exec (Stmt.Assign _ (Expr.ListComp _ _ _ _) _) _) _ _ _)); (fail_if_success (with_reducible show wpAny _ _ (pyIter _) _ _ _)); (fail_if_success (with_reducible show wpAny _ _ (call (Value.ref _) _) _ _ _)); first | ((first | (with_reducible show wpAny _ _ (exec _ _) _ _ _) | ((with_reducible show wpAny _ _ (eval _ _) _ _ _); (fail_if_success (with_reducible show wpAny _ _ (eval (PySem.Expr.Name _ _) _) _ _ _)); (fail_if_success (with_reducible show wpAny _ _ (eval (PySem.Expr.Constant _ _ _) _) _ _ _)); skip)); k_fold) | (with_reducible (show wpAny _ _ (binaryOp Operator.Add (Value.int _ _) (Value.int _ _)) _ _ _; k_here; (refine my_add ?_); intro _ _ _)) | (with_reducible (show wpAny _ _ (binaryOp Operator.Mod (Value.int _ _) (Value.int _ _)) _ _ _; k_here; (refine my_mod (by first | assumption | exact one_add_pos (by assumption) (by assumption) | omega) ?_); intro _ _ _)) | (with_reducible (show wpAny _ _ (binaryOp Operator.Mult (Value.int _ _) (Value.int _ _)) _ _ _; k_here; (refine my_mul (by first | (left; decide) | (right; decide) | (left; assumption) | (right; assumption) | omega) ?_); intro _ _ _)) | (with_reducible (show wpAny _ _ (binaryOp Operator.Sub (Value.int _ _) (Value.int _ _)) _ _ _; k_here; (refine my_sub ?_); intro _ _ _)) | (with_reducible (show wpAny _ _ (call (Value.type "range") _) _ _ _; k_here; k_dflt (first | (refine' my_range1 ?ok1 ?ok2 ?_; (case ok1 => k_asm); (case ok2 => k_asm); k_whole; intro _ _ _ _ _ _ _ _) | (refine' my_range2 ?ok1 ?ok2 ?_; (case ok1 => k_asm); (case ok2 => k_asm); k_whole; intro _ _ _ _ _ _ _)); (try k_sweep))) | (with_reducible (show wpAny _ _ (callWith _ (Value.ref _) _ _ _) _ _ _; k_here; k_dflt (first | (refine' callWith_K ?ok1 ?ok2 ?_; (case ok1 => k_asm); (case ok2 => k_is); k_whole) | (refine' callWith_K0 ?ok1 ?ok2 ?_; (case ok1 => k_in); (case ok2 => k_is); k_whole)))) | (with_reducible (show wpAny _ _ (eval (PySem.Expr.Name _ _) (compEnvC _ _ _ _)) _ _ _; k_here; k_dflt (first | (refine' ce_local ?oN ?om ?on ?ov ?_ ?oa ?ob; (case oa => rfl); (case ob => rfl); (case on => assumption); (case oN => k_asm); (case om => k_mem); (case ov => assumption); k_whole) | (refine' ce_cell ?oN ?oc ?om ?od ?_ ?oa ?ob; (case oa => rfl); (case ob => rfl); (case oN => k_asm); (case oc => rfl); (case om => k_mem); (case od => k_asm); k_whole) | (refine' ce_K ?oF ?oX ?oT ?oe ?_ ?og ?oa ?ob; (case og => rfl); (case oa => rfl); (case ob => rfl); (case oF => k_asm); (case oX => k_asm); (case oT => k_asm); (case oe => k_is); k_whole) | (refine' ce_B ?oF ?oX ?oT ?oe ?ov ?on ?_ ?og ?ogb ?oa ?ob; (case og => rfl); (case ogb => rfl); (case oa => rfl); (case ob => rfl); (case oF => k_asm); (case oX => k_asm); (case oT => k_asm); (case oe => k_is); (case ov => boot_fast); (case on => decide); k_whole)))) | (with_reducible (show wpAny _ _ (eval (PySem.Expr.Name _ _) _) _ _ _; k_here; k_dflt (first | (refine' nameX_F ?oN ?oc ?om ?od ?_ ?oa ?ob; (case oa => rfl); (case ob => rfl); (case oN => k_asm); (case oc => rfl); (case om => k_mem); (case od => k_asm); k_whole) | (refine' nameX_C ?oN ?oc ?om ?od ?_ ?oa ?ob; (case oa => rfl); (case ob => rfl); (case oN => k_asm); (case oc => rfl); (case om => k_mem); (case od => k_asm); k_whole)))) | walk1 | (dsimp only; walk1)))
      k_dflt (refine' comp_eval ?c ?k ?n ?_; (case c => rfl); (case k => rfl); (case n => decide))
      repeat' (first | (k_unfold; (try dsimp only); repeat (first | clear ek | clear qk)) | ((fail_if_success (with_reducible show wpAny _ _ (subscriptTail _ _ _ _) _ _ _)); (fail_if_success (with_reducible show wpAny _ _ (exec (Stmt.While _ _ _ _) _) _ _ _)); (fail_if_success (with_reducible show wpAny _ _ (exec (Stmt.For _ _ _ _ _) _) _ _ _)); (fail_if_success (with_reducible show wpAny _ _ (eval (Expr.ListComp _ _ _ _) _) _ _ _)); (fail_if_success (with_reducible show wpAny _ _ (exec (Stmt.Assign _ (Expr.ListComp _ _ _ _) _) _) _ _ _)); (fail_if_success (with_reducible show wpAny _ _ (pyIter _) _ _ _)); (fail_if_success (with_reducible show wpAny _ _ (call (Value.ref _) _) _ _ _)); first | ((first | (with_reducible show wpAny _ _ (exec _ _) _ _ _) | ((with_reducible show wpAny _ _ (eval _ _) _ _ _); (fail_if_success (with_reducible show wpAny _ _ (eval (PySem.Expr.Name _ _) _) _ _ _)); (fail_if_success (with_reducible show wpAny _ _ (eval (PySem.Expr.Constant _ _ _) _) _ _ _)); skip)); k_fold) | (with_reducible (show wpAny _ _ (binaryOp Operator.Add (Value.int _ _) (Value.int _ _)) _ _ _; k_here; (refine my_add ?_); intro _ _ _)) | (with_reducible (show wpAny _ _ (binaryOp Operator.Mod (Value.int _ _) (Value.int _ _)) _ _ _; k_here; (refine my_mod (by first | assumption | exact one_add_pos (by assumption) (by assumption) | omega) ?_); intro _ _ _)) | (with_reducible (show wpAny _ _ (binaryOp Operator.Mult (Value.int _ _) (Value.int _ _)) _ _ _; k_here; (refine my_mul (by first | (left; decide) | (right; decide) | (left; assumption) | (right; assumption) | omega) ?_); intro _ _ _)) | (with_reducible (show wpAny _ _ (binaryOp Operator.Sub (Value.int _ _) (Value.int _ _)) _ _ _; k_here; (refine my_sub ?_); intro _ _ _)) | (with_reducible (show wpAny _ _ (call (Value.type "range") _) _ _ _; k_here; k_dflt (first | (refine' my_range1 ?ok1 ?ok2 ?_; (case ok1 => k_asm); (case ok2 => k_asm); k_whole; intro _ _ _ _ _ _ _ _) | (refine' my_range2 ?ok1 ?ok2 ?_; (case ok1 => k_asm); (case ok2 => k_asm); k_whole; intro _ _ _ _ _ _ _)); (try k_sweep))) | (with_reducible (show wpAny _ _ (callWith _ (Value.ref _) _ _ _) _ _ _; k_here; k_dflt (first | (refine' callWith_K ?ok1 ?ok2 ?_; (case ok1 => k_asm); (case ok2 => k_is); k_whole) | (refine' callWith_K0 ?ok1 ?ok2 ?_; (case ok1 => k_in); (case ok2 => k_is); k_whole)))) | (with_reducible (show wpAny _ _ (eval (PySem.Expr.Name _ _) (compEnvC _ _ _ _)) _ _ _; k_here; k_dflt (first | (refine' ce_local ?oN ?om ?on ?ov ?_ ?oa ?ob; (case oa => rfl); (case ob => rfl); (case on => assumption); (case oN => k_asm); (case om => k_mem); (case ov => assumption); k_whole) | (refine' ce_cell ?oN ?oc ?om ?od ?_ ?oa ?ob; (case oa => rfl); (case ob => rfl); (case oN => k_asm); (case oc => rfl); (case om => k_mem); (case od => k_asm); k_whole) | (refine' ce_K ?oF ?oX ?oT ?oe ?_ ?og ?oa ?ob; (case og => rfl); (case oa => rfl); (case ob => rfl); (case oF => k_asm); (case oX => k_asm); (case oT => k_asm); (case oe => k_is); k_whole) | (refine' ce_B ?oF ?oX ?oT ?oe ?ov ?on ?_ ?og ?ogb ?oa ?ob; (case og => rfl); (case ogb => rfl); (case oa => rfl); (case ob => rfl); (case oF => k_asm); (case oX => k_asm); (case oT => k_asm); (case oe => k_is); (case ov => boot_fast); (case on => decide); k_whole)))) | (with_reducible (show wpAny _ _ (eval (PySem.Expr.Name _ _) _) _ _ _; k_here; k_dflt (first | (refine' nameX_F ?oN ?oc ?om ?od ?_ ?oa ?ob; (case oa => rfl); (case ob => rfl); (case oN => k_asm); (case oc => rfl); (case om => k_mem); (case od => k_asm); k_whole) | (refine' nameX_C ?oN ?oc ?om ?od ?_ ?oa ?ob; (case oa => rfl); (case ob => rfl); (case oN => k_asm); (case oc => rfl); (case om => k_mem); (case od => k_asm); k_whole)))) | walk1 | (dsimp only; walk1)))
      rename _ = _ + _ => hv
      rw [cast_succ k8] at hv
      subst hv
      k_dflt (refine' comp_range (fun j its led9 => ∃ bs : List Addr, its = bs.map Value.ref ∧ PairsAre led9 bs (toldRow x' b' j) ∧ (∀ p ∈ news8, p ∈ led9)) rfl ?hr ?p1 ?p2 ?p3 ?p4 ?p5 rfl rfl ?F ?N ?i0 ?turn ?done; (case F => k_asm); (case N => k_asm))
      case hr => k_mem
      case p1 => omega
      case p2 => omega
      case p3 => omega
      case p4 => omega
      case p5 => decide
      case i0 => exact ⟨[], rfl, .nil, fun q hq => by k_mem⟩
      case turn =>
        rintro I9 j v its led9 h tk C oC D9 e o9 mC E' hin ⟨tv, rfl⟩ ⟨bs, rfl, hbs, hsub⟩ hl F3 N3 nC hmx sep c1 c2 c3 hso9
        have hq1 := hsub _ n1
        have hq2 := hsub _ n2
        have hj60 := one_add60 (toNat_succ_pred k8 ▸ hin) hBb
        refine wpAny_tests_nil ?_
        rw [if_pos rfl]
        repeat' (first | (k_unfold; (try dsimp only); repeat (first | clear ek | clear qk)) | ((fail_if_success (with_reducible show wpAny _ _ (subscriptTail _ _ _ _) _ _ _)); (fail_if_success (with_reducible show wpAny _ _ (exec (Stmt.While _ _ _ _) _) _ _ _)); (fail_if_success (with_reducible show wpAny _ _ (exec (Stmt.For _ _ _ _ _) _) _ _ _)); (fail_if_success (with_reducible show wpAny _ _ (eval (Expr.ListComp _ _ _ _) _) _ _ _)); (fail_if_success (with_reducible show wpAny _ _ (exec (Stmt.Assign _ (Expr.ListComp _ _ _ _) _) _) _ _ _)); (fail_if_success (with_reducible show wpAny _ _ (pyIter _) _ _ _)); (fail_if_success (with_reducible show wpAny _ _ (call (Value.ref _) _) _ _ _)); first | ((first | (with_reducible show wpAny _ _ (exec _ _) _ _ _) | ((with_reducible show wpAny _ _ (eval _ _) _ _ _); (fail_if_success (with_reducible show wpAny _ _ (eval (PySem.Expr.Name _ _) _) _ _ _)); (fail_if_success (with_reducible show wpAny _ _ (eval (PySem.Expr.Constant _ _ _) _) _ _ _)); skip)); k_fold) | (with_reducible (show wpAny _ _ (binaryOp Operator.Add (Value.int _ _) (Value.int _ _)) _ _ _; k_here; (refine my_add ?_); intro _ _ _)) | (with_reducible (show wpAny _ _ (binaryOp Operator.Mod (Value.int _ _) (Value.int _ _)) _ _ _; k_here; (refine my_mod (by first | assumption | exact one_add_pos (by assumption) (by assumption) | omega) ?_); intro _ _ _)) | (with_reducible (show wpAny _ _ (binaryOp Operator.Mult (Value.int _ _) (Value.int _ _)) _ _ _; k_here; (refine my_mul (by first | (left; decide) | (right; decide) | (left; assumption) | (right; assumption) | omega) ?_); intro _ _ _)) | (with_reducible (show wpAny _ _ (binaryOp Operator.Sub (Value.int _ _) (Value.int _ _)) _ _ _; k_here; (refine my_sub ?_); intro _ _ _)) | (with_reducible (show wpAny _ _ (call (Value.type "range") _) _ _ _; k_here; k_dflt (first | (refine' my_range1 ?ok1 ?ok2 ?_; (case ok1 => k_asm); (case ok2 => k_asm); k_whole; intro _ _ _ _ _ _ _ _) | (refine' my_range2 ?ok1 ?ok2 ?_; (case ok1 => k_asm); (case ok2 => k_asm); k_whole; intro _ _ _ _ _ _ _)); (try k_sweep))) | (with_reducible (show wpAny _ _ (callWith _ (Value.ref _) _ _ _) _ _ _; k_here; k_dflt (first | (refine' callWith_K ?ok1 ?ok2 ?_; (case ok1 => k_asm); (case ok2 => k_is); k_whole) | (refine' callWith_K0 ?ok1 ?ok2 ?_; (case ok1 => k_in); (case ok2 => k_is); k_whole)))) | (with_reducible (show wpAny _ _ (eval (PySem.Expr.Name _ _) (compEnvC _ _ _ _)) _ _ _; k_here; k_dflt (first | (refine' ce_local ?oN ?om ?on ?ov ?_ ?oa ?ob; (case oa => rfl); (case ob => rfl); (case on => assumption); (case oN => k_asm); (case om => k_mem); (case ov => assumption); k_whole) | (refine' ce_cell ?oN ?oc ?om ?od ?_ ?oa ?ob; (case oa => rfl); (case ob => rfl); (case oN => k_asm); (case oc => rfl); (case om => k_mem); (case od => k_asm); k_whole) | (refine' ce_K ?oF ?oX ?oT ?oe ?_ ?og ?oa ?ob; (case og => rfl); (case oa => rfl); (case ob => rfl); (case oF => k_asm); (case oX => k_asm); (case oT => k_asm); (case oe => k_is); k_whole) | (refine' ce_B ?oF ?oX ?oT ?oe ?ov ?on ?_ ?og ?ogb ?oa ?ob; (case og => rfl); (case ogb => rfl); (case oa => rfl); (case ob => rfl); (case oF => k_asm); (case oX => k_asm); (case oT => k_asm); (case oe => k_is); (case ov => boot_fast); (case on => decide); k_whole)))) | (with_reducible (show wpAny _ _ (eval (PySem.Expr.Name _ _) _) _ _ _; k_here; k_dflt (first | (refine' nameX_F ?oN ?oc ?om ?od ?_ ?oa ?ob; (case oa => rfl); (case ob => rfl); (case oN => k_asm); (case oc => rfl); (case om => k_mem); (case od => k_asm); k_whole) | (refine' nameX_C ?oN ?oc ?om ?od ?_ ?oa ?ob; (case oa => rfl); (case ob => rfl); (case oN => k_asm); (case oc => rfl); (case om => k_mem); (case od => k_asm); k_whole)))) | walk1 | (dsimp only; walk1)))
        rename _ = _ * (b' : Int) => hvb
        rename _ = _ * x' => hva
        subst hva
        subst hvb
        rename_i ta tb D' _ _ ltD _
        obtain ⟨lt1, lt2, lt3, lt4⟩ := ltD
        refine comp_end ((D', tupOf [.int ((1 + (j : Int)) * x') ta, .int ((1 + (j : Int)) * b') tb]) :: led9) (by assumption) (by assumption) (by k_mem) (by k_mem) (by k_mem) (fun p hp => ?_) ⟨bs ++ [D'], ?_, ?_, fun q hq => List.mem_cons_of_mem _ (hsub q hq)⟩
        · rcases List.mem_cons.mp hp with rfl | hp
          · exact ⟨List.mem_cons_self, Ne.symm (Nat.ne_of_lt lt1), Ne.symm (Nat.ne_of_lt lt2), Ne.symm (Nat.ne_of_lt lt3)⟩
          · exact ⟨by k_mem, sep p hp⟩
        · simp
        · have e9 : toldRow x' b' (j + 1) = toldRow x' b' j ++ [((1 + (j : Int)) * x', (1 + (j : Int)) * b')] := by
            unfold toldRow
            rw [List.range_succ, List.map_append, Int.add_comm 1 (j : Int)]
            rfl
          rw [e9]
          exact (hbs.mono fun a p q tp tq h => List.mem_cons_of_mem _ h).append (.cons List.mem_cons_self .nil)
      case done =>
        rintro its led9 h tk C oC D9 e mC ⟨bs, rfl, hbs, hsub⟩ F3 N3 nC sep hCD
        refine comp_none F3 N3 nC sep hCD ?_
        intro h4 F4 N4 hneD
        rw [toNat_succ_pred k8] at hbs
        repeat' (first | (k_unfold; (try dsimp only); repeat (first | clear ek | clear qk)) | ((fail_if_success (with_reducible show wpAny _ _ (subscriptTail _ _ _ _) _ _ _)); (fail_if_success (with_reducible show wpAny _ _ (exec (Stmt.While _ _ _ _) _) _ _ _)); (fail_if_success (with_reducible show wpAny _ _ (exec (Stmt.For _ _ _ _ _) _) _ _ _)); (fail_if_success (with_reducible show wpAny _ _ (eval (Expr.ListComp _ _ _ _) _) _ _ _)); (fail_if_success (with_reducible show wpAny _ _ (exec (Stmt.Assign _ (Expr.ListComp _ _ _ _) _) _) _ _ _)); (fail_if_success (with_reducible show wpAny _ _ (pyIter _) _ _ _)); (fail_if_success (with_reducible show wpAny _ _ (call (Value.ref _) _) _ _ _)); first | ((first | (with_reducible show wpAny _ _ (exec _ _) _ _ _) | ((with_reducible show wpAny _ _ (eval _ _) _ _ _); (fail_if_success (with_reducible show wpAny _ _ (eval (PySem.Expr.Name _ _) _) _ _ _)); (fail_if_success (with_reducible show wpAny _ _ (eval (PySem.Expr.Constant _ _ _) _) _ _ _)); skip)); k_fold) | (with_reducible (show wpAny _ _ (binaryOp Operator.Add (Value.int _ _) (Value.int _ _)) _ _ _; k_here; (refine my_add ?_); intro _ _ _)) | (with_reducible (show wpAny _ _ (binaryOp Operator.Mod (Value.int _ _) (Value.int _ _)) _ _ _; k_here; (refine my_mod (by first | assumption | exact one_add_pos (by assumption) (by assumption) | omega) ?_); intro _ _ _)) | (with_reducible (show wpAny _ _ (binaryOp Operator.Mult (Value.int _ _) (Value.int _ _)) _ _ _; k_here; (refine my_mul (by first | (left; decide) | (right; decide) | (left; assumption) | (right; assumption) | omega) ?_); intro _ _ _)) | (with_reducible (show wpAny _ _ (binaryOp Operator.Sub (Value.int _ _) (Value.int _ _)) _ _ _; k_here; (refine my_sub ?_); intro _ _ _)) | (with_reducible (show wpAny _ _ (call (Value.type "range") _) _ _ _; k_here; k_dflt (first | (refine' my_range1 ?ok1 ?ok2 ?_; (case ok1 => k_asm); (case ok2 => k_asm); k_whole; intro _ _ _ _ _ _ _ _) | (refine' my_range2 ?ok1 ?ok2 ?_; (case ok1 => k_asm); (case ok2 => k_asm); k_whole; intro _ _ _ _ _ _ _)); (try k_sweep))) | (with_reducible (show wpAny _ _ (callWith _ (Value.ref _) _ _ _) _ _ _; k_here; k_dflt (first | (refine' callWith_K ?ok1 ?ok2 ?_; (case ok1 => k_asm); (case ok2 => k_is); k_whole) | (refine' callWith_K0 ?ok1 ?ok2 ?_; (case ok1 => k_in); (case ok2 => k_is); k_whole)))) | (with_reducible (show wpAny _ _ (eval (PySem.Expr.Name _ _) (compEnvC _ _ _ _)) _ _ _; k_here; k_dflt (first | (refine' ce_local ?oN ?om ?on ?ov ?_ ?oa ?ob; (case oa => rfl); (case ob => rfl); (case on => assumption); (case oN => k_asm); (case om => k_mem); (case ov => assumption); k_whole) | (refine' ce_cell ?oN ?oc ?om ?od ?_ ?oa ?ob; (case oa => rfl); (case ob => rfl); (case oN => k_asm); (case oc => rfl); (case om => k_mem); (case od => k_asm); k_whole) | (refine' ce_K ?oF ?oX ?oT ?oe ?_ ?og ?oa ?ob; (case og => rfl); (case oa => rfl); (case ob => rfl); (case oF => k_asm); (case oX => k_asm); (case oT => k_asm); (case oe => k_is); k_whole) | (refine' ce_B ?oF ?oX ?oT ?oe ?ov ?on ?_ ?og ?ogb ?oa ?ob; (case og => rfl); (case ogb => rfl); (case oa => rfl); (case ob => rfl); (case oF => k_asm); (case oX => k_asm); (case oT => k_asm); (case oe => k_is); (case ov => boot_fast); (case on => decide); k_whole)))) | (with_reducible (show wpAny _ _ (eval (PySem.Expr.Name _ _) _) _ _ _; k_here; k_dflt (first | (refine' nameX_F ?oN ?oc ?om ?od ?_ ?oa ?ob; (case oa => rfl); (case ob => rfl); (case oN => k_asm); (case oc => rfl); (case om => k_mem); (case od => k_asm); k_whole) | (refine' nameX_C ?oN ?oc ?om ?od ?_ ?oa ?ob; (case oa => rfl); (case ob => rfl); (case oN => k_asm); (case oc => rfl); (case om => k_mem); (case od => k_asm); k_whole)))) | walk1 | (dsimp only; walk1)))
        have hT9 := hT8'.sub (led' := (D9, refs bs e) :: led9) fun q hq => List.mem_cons_of_mem _ (hsub q hq)
        have hLt9 := hsub _ hLt8
        have hbl : bs.length = k8 := by
          rw [hbs.length]
          simp [toldRow]
        have hal : as.length = acc.length := hpr.length
        refine' my_extend (vs := as.map Value.ref) (us := bs.map Value.ref) ?q1 N4 ?q2 List.mem_cons_self ?q4 ?q5 ?_
        case q1 => k_asm
        case q2 => exact List.mem_cons_of_mem _ hLt9
        case q4 => rw [List.length_map]; exact lt700 hal hlen hi
        case q5 => rw [List.length_map]; exact Nat.lt_of_le_of_lt (Nat.le_trans (Nat.le_of_eq hbl) hBb) (by decide)
        intro h5 led5 n5 F5 N5 m5 k5 _
        rw [← List.map_append] at m5
        have hT5 := TI.ext N4 hT9 (hbs.mono fun a p q tp tq h => List.mem_cons_of_mem _ h) m5 k5
        have hI5 : (I, o) ∈ led5 := k5 _ (List.mem_cons_of_mem _ (hsub _ hI8)) (Ne.symm (hneI _ hLt))
        have hT5' := hT5
        obtain ⟨⟨q3, u3, n3, f3⟩, ⟨q4, u4, n4, f4⟩, ⟨e5, hLt5⟩, hpr5, htb5, hkp5⟩ := hT5'
        repeat' (first | (k_unfold; (try dsimp only); repeat (first | clear ek | clear qk)) | ((fail_if_success (with_reducible show wpAny _ _ (subscriptTail _ _ _ _) _ _ _)); (fail_if_success (with_reducible show wpAny _ _ (exec (Stmt.While _ _ _ _) _) _ _ _)); (fail_if_success (with_reducible show wpAny _ _ (exec (Stmt.For _ _ _ _ _) _) _ _ _)); (fail_if_success (with_reducible show wpAny _ _ (eval (Expr.ListComp _ _ _ _) _) _ _ _)); (fail_if_success (with_reducible show wpAny _ _ (exec (Stmt.Assign _ (Expr.ListComp _ _ _ _) _) _) _ _ _)); (fail_if_success (with_reducible show wpAny _ _ (pyIter _) _ _ _)); (fail_if_success (with_reducible show wpAny _ _ (call (Value.ref _) _) _ _ _)); first | ((first | (with_reducible show wpAny _ _ (exec _ _) _ _ _) | ((with_reducible show wpAny _ _ (eval _ _) _ _ _); (fail_if_success (with_reducible show wpAny _ _ (eval (PySem.Expr.Name _ _) _) _ _ _)); (fail_if_success (with_reducible show wpAny _ _ (eval (PySem.Expr.Constant _ _ _) _) _ _ _)); skip)); k_fold) | (with_reducible (show wpAny _ _ (binaryOp Operator.Add (Value.int _ _) (Value.int _ _)) _ _ _; k_here; (refine my_add ?_); intro _ _ _)) | (with_reducible (show wpAny _ _ (binaryOp Operator.Mod (Value.int _ _) (Value.int _ _)) _ _ _; k_here; (refine my_mod (by first | assumption | exact one_add_pos (by assumption) (by assumption) | omega) ?_); intro _ _ _)) | (with_reducible (show wpAny _ _ (binaryOp Operator.Mult (Value.int _ _) (Value.int _ _)) _ _ _; k_here; (refine my_mul (by first | (left; decide) | (right; decide) | (left; assumption) | (right; assumption) | omega) ?_); intro _ _ _)) | (with_reducible (show wpAny _ _ (binaryOp Operator.Sub (Value.int _ _) (Value.int _ _)) _ _ _; k_here; (refine my_sub ?_); intro _ _ _)) | (with_reducible (show wpAny _ _ (call (Value.type "range") _) _ _ _; k_here; k_dflt (first | (refine' my_range1 ?ok1 ?ok2 ?_; (case ok1 => k_asm); (case ok2 => k_asm); k_whole; intro _ _ _ _ _ _ _ _) | (refine' my_range2 ?ok1 ?ok2 ?_; (case ok1 => k_asm); (case ok2 => k_asm); k_whole; intro _ _ _ _ _ _ _)); (try k_sweep))) | (with_reducible (show wpAny _ _ (callWith _ (Value.ref _) _ _ _) _ _ _; k_here; k_dflt (first | (refine' callWith_K ?ok1 ?ok2 ?_; (case ok1 => k_asm); (case ok2 => k_is); k_whole) | (refine' callWith_K0 ?ok1 ?ok2 ?_; (case ok1 => k_in); (case ok2 => k_is); k_whole)))) | (with_reducible (show wpAny _ _ (eval (PySem.Expr.Name _ _) (compEnvC _ _ _ _)) _ _ _; k_here; k_dflt (first | (refine' ce_local ?oN ?om ?on ?ov ?_ ?oa ?ob; (case oa => rfl); (case ob => rfl); (case on => assumption); (case oN => k_asm); (case om => k_mem); (case ov => assumption); k_whole) | (refine' ce_cell ?oN ?oc ?om ?od ?_ ?oa ?ob; (case oa => rfl); (case ob => rfl); (case oN => k_asm); (case oc => rfl); (case om => k_mem); (case od => k_asm); k_whole) | (refine' ce_K ?oF ?oX ?oT ?oe ?_ ?og ?oa ?ob; (case og => rfl); (case oa => rfl); (case ob => rfl); (case oF => k_asm); (case oX => k_asm); (case oT => k_asm); (case oe => k_is); k_whole) | (refine' ce_B ?oF ?oX ?oT ?oe ?ov ?on ?_ ?og ?ogb ?oa ?ob; (case og => rfl); (case ogb => rfl); (case oa => rfl); (case ob => rfl); (case oF => k_asm); (case oX => k_asm); (case oT => k_asm); (case oe => k_is); (case ov => boot_fast); (case on => decide); k_whole)))) | (with_reducible (show wpAny _ _ (eval (PySem.Expr.Name _ _) _) _ _ _; k_here; k_dflt (first | (refine' nameX_F ?oN ?oc ?om ?od ?_ ?oa ?ob; (case oa => rfl); (case ob => rfl); (case oN => k_asm); (case oc => rfl); (case om => k_mem); (case od => k_asm); k_whole) | (refine' nameX_C ?oN ?oc ?om ?od ?_ ?oa ?ob; (case oa => rfl); (case ob => rfl); (case oN => k_asm); (case oc => rfl); (case om => k_mem); (case od => k_asm); k_whole)))) | walk1 | (dsimp only; walk1)))
        rename _ = (B : Int) + (b' : Int) => hvs
        rw [show (B : Int) + (b' : Int) = ((B + b' : Nat) : Int) from rfl] at hvs
        subst hvs
        have hBb2 : B + b' ≤ 200 := Nat.add_le_add hB (Nat.le_trans hbB hB)
        refine Spec.use (quotient_spec w ((B + b' : Nat) : Int) l' W _ _ (neg39 _) (nat39 hBb2 (by decide)) hl1 (Nat.lt_of_le_of_lt (Nat.le_trans hlB hB) (by decide))) (by k_asm) (by k_asm) (by k_asm) (by k_asm) (by k_asm) rfl (by ktr_room) (by ktr_units) hT5.tabs ?_
        rintro r6 news6 h6 tk6 F6 N6 ⟨t6, rfl, hkept6⟩
        have hT6 := hT5.kept hkept6
        have hI6 : (I, o) ∈ news6 := hkept6.2 _ (by k_mem) (solid_it hso)
        rw [show ((B + b' : Nat) : Int) / (l' : Int) = (((B + b') / l' : Nat) : Int) from by simp]
        have hTB : (B + b') / l' ≤ 200 := Nat.le_trans (Nat.div_le_self _ _) hBb2
        have hTn : B < (B + b') / l' * l' - b' + l' ∧ (B + b') / l' * l' ≤ B + b' := div_box hl1
        generalize hTt : (B + b') / l' = T at *
        have hT60 := nat60m hTB (by decide)
        have hT6' := hT6
        obtain ⟨⟨q5, u5, n5, f5⟩, ⟨q6, u6, n6, f6⟩, ⟨e6, hLt6⟩, hpr6, htb6, hkp6⟩ := hT6'
        repeat' (first | (k_unfold; (try dsimp only); repeat (first | clear ek | clear qk)) | ((fail_if_success (with_reducible show wpAny _ _ (subscriptTail _ _ _ _) _ _ _)); (fail_if_success (with_reducible show wpAny _ _ (exec (Stmt.While _ _ _ _) _) _ _ _)); (fail_if_success (with_reducible show wpAny _ _ (exec (Stmt.For _ _ _ _ _) _) _ _ _)); (fail_if_success (with_reducible show wpAny _ _ (eval (Expr.ListComp _ _ _ _) _) _ _ _)); (fail_if_success (with_reducible show wpAny _ _ (exec (Stmt.Assign _ (Expr.ListComp _ _ _ _) _) _) _ _ _)); (fail_if_success (with_reducible show wpAny _ _ (pyIter _) _ _ _)); (fail_if_success (with_reducible show wpAny _ _ (call (Value.ref _) _) _ _ _)); first | ((first | (with_reducible show wpAny _ _ (exec _ _) _ _ _) | ((with_reducible show wpAny _ _ (eval _ _) _ _ _); (fail_if_success (with_reducible show wpAny _ _ (eval (PySem.Expr.Name _ _) _) _ _ _)); (fail_if_success (with_reducible show wpAny _ _ (eval (PySem.Expr.Constant _ _ _) _) _ _ _)); skip)); k_fold) | (with_reducible (show wpAny _ _ (binaryOp Operator.Add (Value.int _ _) (Value.int _ _)) _ _ _; k_here; (refine my_add ?_); intro _ _ _)) | (with_reducible (show wpAny _ _ (binaryOp Operator.Mod (Value.int _ _) (Value.int _ _)) _ _ _; k_here; (refine my_mod (by first | assumption | exact one_add_pos (by assumption) (by assumption) | omega) ?_); intro _ _ _)) | (with_reducible (show wpAny _ _ (binaryOp Operator.Mult (Value.int _ _) (Value.int _ _)) _ _ _; k_here; (refine my_mul (by first | (left; decide) | (right; decide) | (left; assumption) | (right; assumption) | omega) ?_); intro _ _ _)) | (with_reducible (show wpAny _ _ (binaryOp Operator.Sub (Value.int _ _) (Value.int _ _)) _ _ _; k_here; (refine my_sub ?_); intro _ _ _)) | (with_reducible (show wpAny _ _ (call (Value.type "range") _) _ _ _; k_here; k_dflt (first | (refine' my_range1 ?ok1 ?ok2 ?_; (case ok1 => k_asm); (case ok2 => k_asm); k_whole; intro _ _ _ _ _ _ _ _) | (refine' my_range2 ?ok1 ?ok2 ?_; (case ok1 => k_asm); (case ok2 => k_asm); k_whole; intro _ _ _ _ _ _ _)); (try k_sweep))) | (with_reducible (show wpAny _ _ (callWith _ (Value.ref _) _ _ _) _ _ _; k_here; k_dflt (first | (refine' callWith_K ?ok1 ?ok2 ?_; (case ok1 => k_asm); (case ok2 => k_is); k_whole) | (refine' callWith_K0 ?ok1 ?ok2 ?_; (case ok1 => k_in); (case ok2 => k_is); k_whole)))) | (with_reducible (show wpAny _ _ (eval (PySem.Expr.Name _ _) (compEnvC _ _ _ _)) _ _ _; k_here; k_dflt (first | (refine' ce_local ?oN ?om ?on ?ov ?_ ?oa ?ob; (case oa => rfl); (case ob => rfl); (case on => assumption); (case oN => k_asm); (case om => k_mem); (case ov => assumption); k_whole) | (refine' ce_cell ?oN ?oc ?om ?od ?_ ?oa ?ob; (case oa => rfl); (case ob => rfl); (case oN => k_asm); (case oc => rfl); (case om => k_mem); (case od => k_asm); k_whole) | (refine' ce_K ?oF ?oX ?oT ?oe ?_ ?og ?oa ?ob; (case og => rfl); (case oa => rfl); (case ob => rfl); (case oF => k_asm); (case oX => k_asm); (case oT => k_asm); (case oe => k_is); k_whole) | (refine' ce_B ?oF ?oX ?oT ?oe ?ov ?on ?_ ?og ?ogb ?oa ?ob; (case og => rfl); (case ogb => rfl); (case oa => rfl); (case ob => rfl); (case oF => k_asm); (case oX => k_asm); (case oT => k_asm); (case oe => k_is); (case ov => boot_fast); (case on => decide); k_whole)))) | (with_reducible (show wpAny _ _ (eval (PySem.Expr.Name _ _) _) _ _ _; k_here; k_dflt (first | (refine' nameX_F ?oN ?oc ?om ?od ?_ ?oa ?ob; (case oa => rfl); (case ob => rfl); (case oN => k_asm); (case oc => rfl); (case om => k_mem); (case od => k_asm); k_whole) | (refine' nameX_C ?oN ?oc ?om ?od ?_ ?oa ?ob; (case oa => rfl); (case ob => rfl); (case oN => k_asm); (case oc => rfl); (case om => k_mem); (case od => k_asm); k_whole)))) | walk1 | (dsimp only; walk1)))
        rename _ = _ - (b' : Int) => hvl
        rename _ = (T : Int) * (l' : Int) => hvl0
        rename _ = _ - x' => hvh
        rename _ = (T : Int) * h' => hvh0
        rename News _ _ _ _ => lN7
        have lN8 := news_sub (led' := news6) lN7 (fun q hq => List.mem_cons_of_mem _ hq)
        clear lN7
        refine' store_cell ?a1 lN8 ?a2 ?a3 ?a4 ?_
        case a1 => k_asm
        case a2 => rfl
        case a3 => exact n5
        case a4 => exact f5
        intro hA ledA oA FA NA mA dA kA
        have hTA := TI.st1 lN8 hT6 mA dA kA
        have hIA : (I, o) ∈ ledA := kA _ hI6 (Ne.symm (hneI _ m1))
        obtain ⟨qA, uA, nA, fA⟩ := hTA.c2
        clear lN8
        repeat' (first | (k_unfold; (try dsimp only); repeat (first | clear ek | clear qk)) | ((fail_if_success (with_reducible show wpAny _ _ (subscriptTail _ _ _ _) _ _ _)); (fail_if_success (with_reducible show wpAny _ _ (exec (Stmt.While _ _ _ _) _) _ _ _)); (fail_if_success (with_reducible show wpAny _ _ (exec (Stmt.For _ _ _ _ _) _) _ _ _)); (fail_if_success (with_reducible show wpAny _ _ (eval (Expr.ListComp _ _ _ _) _) _ _ _)); (fail_if_success (with_reducible show wpAny _ _ (exec (Stmt.Assign _ (Expr.ListComp _ _ _ _) _) _) _ _ _)); (fail_if_success (with_reducible show wpAny _ _ (pyIter _) _ _ _)); (fail_if_success (with_reducible show wpAny _ _ (call (Value.ref _) _) _ _ _)); first | ((first | (with_reducible show wpAny _ _ (exec _ _) _ _ _) | ((with_reducible show wpAny _ _ (eval _ _) _ _ _); (fail_if_success (with_reducible show wpAny _ _ (eval (PySem.Expr.Name _ _) _) _ _ _)); (fail_if_success (with_reducible show wpAny _ _ (eval (PySem.Expr.Constant _ _ _) _) _ _ _)); skip)); k_fold) | (with_reducible (show wpAny _ _ (binaryOp Operator.Add (Value.int _ _) (Value.int _ _)) _ _ _; k_here; (refine my_add ?_); intro _ _ _)) | (with_reducible (show wpAny _ _ (binaryOp Operator.Mod (Value.int _ _) (Value.int _ _)) _ _ _; k_here; (refine my_mod (by first | assumption | exact one_add_pos (by assumption) (by assumption) | omega) ?_); intro _ _ _)) | (with_reducible (show wpAny _ _ (binaryOp Operator.Mult (Value.int _ _) (Value.int _ _)) _ _ _; k_here; (refine my_mul (by first | (left; decide) | (right; decide) | (left; assumption) | (right; assumption) | omega) ?_); intro _ _ _)) | (with_reducible (show wpAny _ _ (binaryOp Operator.Sub (Value.int _ _) (Value.int _ _)) _ _ _; k_here; (refine my_sub ?_); intro _ _ _)) | (with_reducible (show wpAny _ _ (call (Value.type "range") _) _ _ _; k_here; k_dflt (first | (refine' my_range1 ?ok1 ?ok2 ?_; (case ok1 => k_asm); (case ok2 => k_asm); k_whole; intro _ _ _ _ _ _ _ _) | (refine' my_range2 ?ok1 ?ok2 ?_; (case ok1 => k_asm); (case ok2 => k_asm); k_whole; intro _ _ _ _ _ _ _)); (try k_sweep))) | (with_reducible (show wpAny _ _ (callWith _ (Value.ref _) _ _ _) _ _ _; k_here; k_dflt (first | (refine' callWith_K ?ok1 ?ok2 ?_; (case ok1 => k_asm); (case ok2 => k_is); k_whole) | (refine' callWith_K0 ?ok1 ?ok2 ?_; (case ok1 => k_in); (case ok2 => k_is); k_whole)))) | (with_reducible (show wpAny _ _ (eval (PySem.Expr.Name _ _) (compEnvC _ _ _ _)) _ _ _; k_here; k_dflt (first | (refine' ce_local ?oN ?om ?on ?ov ?_ ?oa ?ob; (case oa => rfl); (case ob => rfl); (case on => assumption); (case oN => k_asm); (case om => k_mem); (case ov => assumption); k_whole) | (refine' ce_cell ?oN ?oc ?om ?od ?_ ?oa ?ob; (case oa => rfl); (case ob => rfl); (case oN => k_asm); (case oc => rfl); (case om => k_mem); (case od => k_asm); k_whole) | (refine' ce_K ?oF ?oX ?oT ?oe ?_ ?og ?oa ?ob; (case og => rfl); (case oa => rfl); (case ob => rfl); (case oF => k_asm); (case oX => k_asm); (case oT => k_asm); (case oe => k_is); k_whole) | (refine' ce_B ?oF ?oX ?oT ?oe ?ov ?on ?_ ?og ?ogb ?oa ?ob; (case og => rfl); (case ogb => rfl); (case oa => rfl); (case ob => rfl); (case oF => k_asm); (case oX => k_asm); (case oT => k_asm); (case oe => k_is); (case ov => boot_fast); (case on => decide); k_whole)))) | (with_reducible (show wpAny _ _ (eval (PySem.Expr.Name _ _) _) _ _ _; k_here; k_dflt (first | (refine' nameX_F ?oN ?oc ?om ?od ?_ ?oa ?ob; (case oa => rfl); (case ob => rfl); (case oN => k_asm); (case oc => rfl); (case om => k_mem); (case od => k_asm); k_whole) | (refine' nameX_C ?oN ?oc ?om ?od ?_ ?oa ?ob; (case oa => rfl); (case ob => rfl); (case oN => k_asm); (case oc => rfl); (case om => k_mem); (case od => k_asm); k_whole)))) | walk1 | (dsimp only; walk1)))
        refine' store_cell ?b1 NA ?b2 ?b3 ?b4 ?_
        case b1 => k_asm
        case b2 => rfl
        case b3 => exact nA
        case b4 => exact fA
        intro hB' ledB oB FB NB mB dB kB
        have hTB' := TI.st2 NA hTA mB dB kB
        have hIB : (I, o) ∈ ledB := kB _ hIA (Ne.symm (hneI _ m2))
        clear NA
        repeat' (first | (k_unfold; (try dsimp only); repeat (first | clear ek | clear qk)) | ((fail_if_success (with_reducible show wpAny _ _ (subscriptTail _ _ _ _) _ _ _)); (fail_if_success (with_reducible show wpAny _ _ (exec (Stmt.While _ _ _ _) _) _ _ _)); (fail_if_success (with_reducible show wpAny _ _ (exec (Stmt.For _ _ _ _ _) _) _ _ _)); (fail_if_success (with_reducible show wpAny _ _ (eval (Expr.ListComp _ _ _ _) _) _ _ _)); (fail_if_success (with_reducible show wpAny _ _ (exec (Stmt.Assign _ (Expr.ListComp _ _ _ _) _) _) _ _ _)); (fail_if_success (with_reducible show wpAny _ _ (pyIter _) _ _ _)); (fail_if_success (with_reducible show wpAny _ _ (call (Value.ref _) _) _ _ _)); first | ((first | (with_reducible show wpAny _ _ (exec _ _) _ _ _) | ((with_reducible show wpAny _ _ (eval _ _) _ _ _); (fail_if_success (with_reducible show wpAny _ _ (eval (PySem.Expr.Name _ _) _) _ _ _)); (fail_if_success (with_reducible show wpAny _ _ (eval (PySem.Expr.Constant _ _ _) _) _ _ _)); skip)); k_fold) | (with_reducible (show wpAny _ _ (binaryOp Operator.Add (Value.int _ _) (Value.int _ _)) _ _ _; k_here; (refine my_add ?_); intro _ _ _)) | (with_reducible (show wpAny _ _ (binaryOp Operator.Mod (Value.int _ _) (Value.int _ _)) _ _ _; k_here; (refine my_mod (by first | assumption | exact one_add_pos (by assumption) (by assumption) | omega) ?_); intro _ _ _)) | (with_reducible (show wpAny _ _ (binaryOp Operator.Mult (Value.int _ _) (Value.int _ _)) _ _ _; k_here; (refine my_mul (by first | (left; decide) | (right; decide) | (left; assumption) | (right; assumption) | omega) ?_); intro _ _ _)) | (with_reducible (show wpAny _ _ (binaryOp Operator.Sub (Value.int _ _) (Value.int _ _)) _ _ _; k_here; (refine my_sub ?_); intro _ _ _)) | (with_reducible (show wpAny _ _ (call (Value.type "range") _) _ _ _; k_here; k_dflt (first | (refine' my_range1 ?ok1 ?ok2 ?_; (case ok1 => k_asm); (case ok2 => k_asm); k_whole; intro _ _ _ _ _ _ _ _) | (refine' my_range2 ?ok1 ?ok2 ?_; (case ok1 => k_asm); (case ok2 => k_asm); k_whole; intro _ _ _ _ _ _ _)); (try k_sweep))) | (with_reducible (show wpAny _ _ (callWith _ (Value.ref _) _ _ _) _ _ _; k_here; k_dflt (first | (refine' callWith_K ?ok1 ?ok2 ?_; (case ok1 => k_asm); (case ok2 => k_is); k_whole) | (refine' callWith_K0 ?ok1 ?ok2 ?_; (case ok1 => k_in); (case ok2 => k_is); k_whole)))) | (with_reducible (show wpAny _ _ (eval (PySem.Expr.Name _ _) (compEnvC _ _ _ _)) _ _ _; k_here; k_dflt (first | (refine' ce_local ?oN ?om ?on ?ov ?_ ?oa ?ob; (case oa => rfl); (case ob => rfl); (case on => assumption); (case oN => k_asm); (case om => k_mem); (case ov => assumption); k_whole) | (refine' ce_cell ?oN ?oc ?om ?od ?_ ?oa ?ob; (case oa => rfl); (case ob => rfl); (case oN => k_asm); (case oc => rfl); (case om => k_mem); (case od => k_asm); k_whole) | (refine' ce_K ?oF ?oX ?oT ?oe ?_ ?og ?oa ?ob; (case og => rfl); (case oa => rfl); (case ob => rfl); (case oF => k_asm); (case oX => k_asm); (case oT => k_asm); (case oe => k_is); k_whole) | (refine' ce_B ?oF ?oX ?oT ?oe ?ov ?on ?_ ?og ?ogb ?oa ?ob; (case og => rfl); (case ogb => rfl); (case oa => rfl); (case ob => rfl); (case oF => k_asm); (case oX => k_asm); (case oT => k_asm); (case oe => k_is); (case ov => boot_fast); (case on => decide); k_whole)))) | (with_reducible (show wpAny _ _ (eval (PySem.Expr.Name _ _) _) _ _ _; k_here; k_dflt (first | (refine' nameX_F ?oN ?oc ?om ?od ?_ ?oa ?ob; (case oa => rfl); (case ob => rfl); (case oN => k_asm); (case oc => rfl); (case om => k_mem); (case od => k_asm); k_whole) | (refine' nameX_C ?oN ?oc ?om ?od ?_ ?oa ?ob; (case oa => rfl); (case ob => rfl); (case oN => k_asm); (case oc => rfl); (case om => k_mem); (case od => k_asm); k_whole)))) | walk1 | (dsimp only; walk1)))
        rename News _ _ _ _ => lNB
        have hvl' : _ = ((T * l' - b' : Nat) : Int) := hvl.trans (by rw [hvl0, ← Int.natCast_mul]; exact cast_sub_of hTn.1 hlB)
        have hvh' : _ = (T : Int) * h' - x' := hvh.trans (by rw [hvh0])
        subst hvl'
        subst hvh'
        refine forS_end (h', (T : Int) * h' - x', l', T * l' - b', _, _, as ++ bs, acc ++ toldRow x' b' k8) (ledB.filter fun p => p.1 ≠ I) (by assumption) lNB hIB (fun p hp => ⟨(List.mem_filter.mp hp).1, by simpa using (List.mem_filter.mp hp).2⟩) (by kst_all) (by ksw_same)
          ⟨TI.off lNB hTB' hIB hso (fun p hp hs => hneI p (hkp p hp hs).1), ?_, ?_, hl1, hlB, ?_, ?_⟩
        · show (acc ++ toldRow x' b' k8) ++ toldLoop B (7 - (i + 1)) h' _ l' _ = _
          rw [← hacc, seven hi, List.append_assoc]
          show _ = acc ++ (toldRow x' b' (B / b') ++ _)
          rw [hk8, hTt]
        · show (acc ++ toldRow x' b' k8).length ≤ _
          rw [List.length_append]
          have e7 : (toldRow x' b' k8).length = k8 := by simp [toldRow]
          exact len_next hlen (Nat.le_trans (Nat.le_of_eq e7) hBb)
        · show 1 ≤ T * l' - b'
          exact pos_of hTn.1 hlB
        · show T * l' - b' ≤ B
          exact Nat.sub_le_of_le_add hTn.2
end
section
open PySem.AutoSeq1 (wpAny_loadPart')
open PySem.MeetsSeq PySem.MeetsSeq2 PySem.MeetsSeq3 PySem.SeqAt

section
variable {prog : Program} {w : World} {A : Around} {E : Value → Shared → Prop} {s : Shared}
theorem call_list_lt {l b : Addr} {vs us : List Value} {xs ys : List Int} {n n2 : Nat} {Q : Value → Shared → Prop}
    (hl : s.heap.get? l = some (listOf vs.toArray n)) (hb : s.heap.get? b = some (listOf us.toArray n2)) (hx : IntsAre vs xs) (hy : IntsAre us ys) (hlen : vs.length = us.length)
    (h : Q (.bool (ltL xs ys)) s) : wpAny (model prog w) A (call (.builtin "list.__lt__") [.ref l, .ref b]) Q E s := by
  refine call_meets (S := fun _ R s => s.heap.get? l = some (listOf vs.toArray n) ∧ s.heap.get? b = some (listOf us.toArray n2) ∧ R (.ok (.ret (.bool (ltL xs ys)))) s) F.slot_list_lt ⟨_, hl, rfl⟩ F.entry_list_lt (F.args_list_lt_2 _ _) ?_ ⟨hl, hb, h⟩
  intro prog w A R s h
  obtain ⟨hp, g, d, tk, os⟩ := s; obtain ⟨hl, hb, h⟩ := h
  have f3 := AutoSeq1.sub_list_list
  wp_walk using wpAny_loadPart' hl, wpAny_loadPart' hb
  exact ⟨plainId_quiet plain_eq_loop _, codeAny_builtin entry_eq_loop (by
    rw [Around.under_plainId plain_eq_loop _]
    exact lt_loop l b vs us n n2 hlen _ 0 xs ys rfl (by simpa using hx) (by simpa using hy) prog w A R _ ⟨hl, hb, h⟩)⟩
theorem keyLt_lists {l b : Addr} {vs us : List Value} {xs ys : List Int} {n n2 : Nat} {Q : Bool → Shared → Prop}
    (hl : s.heap.get? l = some (listOf vs.toArray n)) (hb : s.heap.get? b = some (listOf us.toArray n2)) (hx : IntsAre vs xs) (hy : IntsAre us ys) (hlen : vs.length = us.length) (hu : A.units < cLine)
    (h : Q (ltL xs ys) s) : wpAny (model prog w) A (keyLt' oneType' (.ref l) (.ref b)) Q E s := by
  rw [keyLt'_oneType, oneLt'_eq]
  simp only [if_true]
  refine wpAny_bind (wpAny_cRoomFor hu ?_)
  refine wpAny_bind (wpAny_callSpecialIfBound?_slot (T := "list") ⟨_, hl, rfl⟩ F.slot_list_lt (call_list_lt hl hb hx hy hlen ?_))
  exact wpAny_truthy_bool h
end

/-- a sort's tree run with plain answers; none if it asks beyond n -/
def kasRun {α : Type} (n : Nat) (lt : Nat → Nat → Bool) : KasT α → Option α
  | .ret a => some a
  | .ask i j k => if i < n ∧ j < n then kasRun n lt (k (lt i j)) else none
theorem kasRun_wp {α : Type} {cmp : Nat → Nat → (Bool → Shared → Prop) → Shared → Prop} {n : Nat} {lt : Nat → Nat → Bool} {s : Shared} {Q : α → Shared → Prop} (hc : ∀ i j C, i < n → j < n → C (lt i j) s → cmp i j C s) :
    ∀ (t : KasT α) (a : α), kasRun n lt t = some a → Q a s → t.kasWp cmp Q s
  | .ret b, a, h, q => by
    injection h with h
    exact h ▸ q
  | .ask i j k, a, h, q => by
    unfold kasRun at h
    split at h
    · rename_i hij
      exact hc i j _ hij.1 hij.2 (kasRun_wp hc (k (lt i j)) a h q)
    · cases h
/-- what sorted gives of as, if the tree keeps to its list -/
def sortP {α : Type} (lt : α → α → Bool) (d : α) (as : List α) : Option (List Nat) := (kasRun as.length (fun i j => lt (as.getD i d) (as.getD j d)) (kas_sort as.length)).map Array.toList

section
variable {prog : Program} {w : World} {A : Around} {E : Value → Shared → Prop} {s : Shared} {h₀ : Heap} {L l : Addr} {m : Str → Option Value} {led : Led} {n : Nat} {as : List Addr} {key : Addr → List Int} {Q : Value → Shared → Prop}
theorem my_sorted {is : List Nat} (Fx : Fr h₀ L s.heap m) (N : News h₀ L s.heap led) (hm : (l, refs as n) ∈ led) (hkey : KeyIn led key as) (h2 : 2 ≤ as.length) (h64 : as.length < 64) (hu : A.in1.in1.units < cLine)
    (hs : sortP (ltK key) 0 as = some is) (hb : ∀ i ∈ is, i < as.length)
    (h : ∀ D c h', Fr h₀ L h' m → News h₀ L h' ((D, refs (is.map fun i => as.getD i 0) c) :: led) → (∀ q ∈ led, q.1 < D) → Q (.ref D) { s with heap := h' }) :
    wpAny (model prog w) A (call (.builtin "sorted") [.ref l]) Q E s := by
  refine kas_sorted (vs := as.map Value.ref) (T := .type "list") Fx N ⟨_, (N _ hm).1, rfl, n, rfl⟩ (by rw [List.length_map]; exact h2) (by rw [List.length_map]; exact h64) (fun h F' N' v hv => ?_) (by decide) fun D e1 h' F' N' hlt => ?_
  · obtain ⟨a, ha, rfl⟩ := List.mem_map.mp hv
    obtain ⟨vs, k, h1, _⟩ := hkey a ha
    exact (Looks.ld (N' _ h1).1).andThen .now
  · unfold sortP at hs
    obtain ⟨p, hp, rfl⟩ := Option.map_eq_some_iff.mp hs
    rw [List.length_map]
    refine kasRun_wp (lt := fun i j => ltK key (as.getD i 0) (as.getD j 0)) (fun i j C hi hj hC => ?_) _ p hp ?_
    · unfold kas_ask
      have e : ∀ i, i < as.length → (as.map Value.ref).getD i Value.none = .ref (as.getD i 0) := fun i hi => by simp [List.getD_eq_getElem?_getD, hi]
      rw [e i hi, e j hj]
      have mem : ∀ i, i < as.length → as.getD i 0 ∈ as := fun i hi => by simp [List.getD_eq_getElem?_getD, hi]
      obtain ⟨vs, k, h1, h2, h3⟩ := hkey _ (mem i hi)
      obtain ⟨us, k', h1', h2', h3'⟩ := hkey _ (mem j hj)
      exact keyLt_lists (N' _ (.tail _ h1)).1 (N' _ (.tail _ h1')).1 h2 h2' (by omega) hu hC
    · have e : (p.toList.map fun i => (as.map Value.ref).getD i Value.none) = (p.toList.map fun i => as.getD i 0).map Value.ref := by
        rw [List.map_map]
        refine List.map_congr_left fun i hi => ?_
        simp [List.getD_eq_getElem?_getD, hb i hi]
      rw [e]
      refine KasFin.intro F' N' (.head (fun p hp => Nat.ne_of_lt (hlt p hp))) fun h'' c F'' N'' => h D c h'' F'' N'' hlt
end
end
section

section
variable {α β : Type}
theorem sdLoop_map (f : α → β) (lt : β → β → Bool) (new : α) (st : Nat) : ∀ (fu : Nat) (xs : List α) (pos : Nat), sdLoop lt (f new) st fu (xs.map f) pos = (sdLoop (fun a b => lt (f a) (f b)) new st fu xs pos).map f
  | 0, xs, pos => by simp [sdLoop, List.map_set]
  | fu + 1, xs, pos => by
    unfold sdLoop
    split
    · rw [List.getElem?_map]
      cases xs[(pos - 1) / 2]? with
      | none => rfl
      | some par =>
        simp only [Option.map]
        split
        · rw [← List.map_set, sdLoop_map f lt new st fu]
        · rw [List.map_set]
    · rw [List.map_set]
theorem siftdown_map (f : α → β) (lt : β → β → Bool) (xs : List α) (st pos : Nat) : siftdown lt (xs.map f) st pos = (siftdown (fun a b => lt (f a) (f b)) xs st pos).map f := by
  unfold siftdown
  rw [List.getElem?_map]
  cases xs[pos]? with
  | none => rfl
  | some new => exact sdLoop_map f lt new st pos xs pos
theorem suLoop_map (f : α → β) (lt : β → β → Bool) : ∀ (fu : Nat) (xs : List α) (pos : Nat), suLoop lt fu (xs.map f) pos = ((suLoop (fun a b => lt (f a) (f b)) fu xs pos).1.map f, (suLoop (fun a b => lt (f a) (f b)) fu xs pos).2)
  | 0, xs, pos => rfl
  | fu + 1, xs, pos => by
    unfold suLoop
    rw [List.getElem?_map, List.getElem?_map]
    cases xs[2 * pos + 1]? with
    | none => rfl
    | some c =>
      cases xs[2 * pos + 1 + 1]? with
      | none =>
        simp only [Option.map]
        rw [← List.map_set, suLoop_map f lt fu]
      | some r =>
        simp only [Option.map]
        split
        · rw [← List.map_set, suLoop_map f lt fu]
        · rw [← List.map_set, suLoop_map f lt fu]
theorem siftup_map (f : α → β) (lt : β → β → Bool) (xs : List α) (pos : Nat) : siftup lt (xs.map f) pos = (siftup (fun a b => lt (f a) (f b)) xs pos).map f := by
  unfold siftup
  rw [List.getElem?_map]
  cases xs[pos]? with
  | none => rfl
  | some new =>
    simp only [Option.map]
    rw [List.length_map, suLoop_map, ← List.map_set, siftdown_map]
theorem heapLoop_map (f : α → β) (lt : β → β → Bool) : ∀ (k : Nat) (xs : List α), heapLoop lt k (xs.map f) = (heapLoop (fun a b => lt (f a) (f b)) k xs).map f
  | 0, xs => rfl
  | k + 1, xs => by
    unfold heapLoop
    rw [siftup_map, heapLoop_map f lt k]
end

/-- the item of a low: worth, low, high -/
def item (his : List Int) (l : Nat) : List Int := if 1 ≤ l ∧ l ≤ his.length then [his.getD (l - 1) 0 * ((840 / l : Nat) : Int), l, his.getD (l - 1) 0] else []
def ltI (his : List Int) (a b : Nat) : Bool := ltL (item his a) (item his b)
def nRun (B : Nat) : Nat → List Int → List Nat → List (Int × Int) → Option (List Int × List Nat × List (Int × Int))
  | 0, his, hs, acc => some (his, hs, acc)
  | n + 1, his, hs, acc => match hs with
    | [] => none
    | low :: rest => if 1 ≤ low ∧ low ≤ B ∧ ¬ low ∈ rest then
        nRun B n (his.set (low - 1) (his.getD (low - 1) 0 + 1)) (siftup (ltI (his.set (low - 1) (his.getD (low - 1) 0 + 1))) (low :: rest) 0) (acc ++ [(his.getD (low - 1) 0, (low : Int))])
      else none
/-- with the least item, told by 9 -/
def itemF (his : List Int) (w : Int) (l : Nat) : List Int := if l = 9 then [w - 1, 0, 0] else item his l
def ltF (his : List Int) (w : Int) (a b : Nat) : Bool := ltL (itemF his w a) (itemF his w b)
def sortL (lt : Nat → Nat → Bool) (as : List Nat) : Option (List Nat) := if as.length < 2 then some as else match sortP lt 0 as with
  | some is => if is.all (fun i => decide (i < as.length)) then some (is.map fun i => as.getD i 0) else none
  | none => none
def nFinal (B : Nat) (his : List Int) : List Nat → Bool
  | [] => false
  | low :: rest => decide (1 ≤ low ∧ low ≤ B ∧ ¬ low ∈ rest) && ((siftup (ltF his (his.getD (low - 1) 0 * ((840 / low : Nat) : Int))) (9 :: rest) 0).head? == some 9) &&
      match sortL (ltF his (his.getD (low - 1) 0 * ((840 / low : Nat) : Int))) (siftup (ltF his (his.getD (low - 1) 0 * ((840 / low : Nat) : Int))) (9 :: rest) 0), sortL (ltF his (his.getD (low - 1) 0 * ((840 / low : Nat) : Int))) (((List.range B).map (· + 1)).filter (fun l => l != low) ++ [9]) with
      | some a, some b => a == b
      | _, _ => false
def his0 (B : Nat) (x : Int) (b : Nat) : List Int := (List.range B).map fun i : Nat => -((-x * ((i : Int) + 1)) / (b : Int))
def lawP (B : Nat) (x : Int) (b : Nat) : Bool := ((List.range B).any fun i : Nat => decide ((x * ((i : Int) + 1) + 1) % (b : Int) = 0)) &&
  match nRun B (toldP B x b).length (his0 B x b) (heapLoop (ltI (his0 B x b)) (B / 2) ((List.range B).map (· + 1))) [] with
  | some (his, hs, acc) => acc == toldP B x b && nFinal B his hs
  | none => false

theorem base_1 : ∀ b ∈ [1], ∀ x ∈ (List.range b).filter (fun x => Nat.gcd x b == 1), lawP 1 (x : Int) b = true := by
  repeat (refine List.forall_mem_cons.mpr ⟨by decide +kernel, ?_⟩)
  exact List.forall_mem_nil _
theorem base_2 : ∀ b ∈ [1, 2], ∀ x ∈ (List.range b).filter (fun x => Nat.gcd x b == 1), lawP 2 (x : Int) b = true := by
  repeat (refine List.forall_mem_cons.mpr ⟨by decide +kernel, ?_⟩)
  exact List.forall_mem_nil _
theorem base_3 : ∀ b ∈ [1, 2, 3], ∀ x ∈ (List.range b).filter (fun x => Nat.gcd x b == 1), lawP 3 (x : Int) b = true := by
  repeat (refine List.forall_mem_cons.mpr ⟨by decide +kernel, ?_⟩)
  exact List.forall_mem_nil _
theorem base_4 : ∀ b ∈ [1, 2, 3, 4], ∀ x ∈ (List.range b).filter (fun x => Nat.gcd x b == 1), lawP 4 (x : Int) b = true := by
  repeat (refine List.forall_mem_cons.mpr ⟨by decide +kernel, ?_⟩)
  exact List.forall_mem_nil _
theorem base_5 : ∀ b ∈ [1, 2, 3, 4, 5], ∀ x ∈ (List.range b).filter (fun x => Nat.gcd x b == 1), lawP 5 (x : Int) b = true := by
  repeat (refine List.forall_mem_cons.mpr ⟨by decide +kernel, ?_⟩)
  exact List.forall_mem_nil _
theorem base_6 : ∀ b ∈ [1, 2, 3, 4, 5, 6], ∀ x ∈ (List.range b).filter (fun x => Nat.gcd x b == 1), lawP 6 (x : Int) b = true := by
  repeat (refine List.forall_mem_cons.mpr ⟨by decide +kernel, ?_⟩)
  exact List.forall_mem_nil _
theorem base_7 : ∀ b ∈ [1, 2, 3, 4, 5, 6, 7], ∀ x ∈ (List.range b).filter (fun x => Nat.gcd x b == 1), lawP 7 (x : Int) b = true := by
  repeat (refine List.forall_mem_cons.mpr ⟨by decide +kernel, ?_⟩)
  exact List.forall_mem_nil _
theorem base_8 : ∀ b ∈ [1, 2, 3, 4, 5, 6, 7, 8], ∀ x ∈ (List.range b).filter (fun x => Nat.gcd x b == 1), lawP 8 (x : Int) b = true := by
  repeat (refine List.forall_mem_cons.mpr ⟨by decide +kernel, ?_⟩)
  exact List.forall_mem_nil _
theorem base_law : ∀ B ∈ [1, 2, 3, 4, 5, 6, 7, 8], ∀ b ∈ (List.range B).map (· + 1), ∀ x ∈ (List.range b).filter (fun x => Nat.gcd x b == 1), lawP B (x : Int) b = true :=
  List.forall_mem_cons.mpr ⟨base_1, List.forall_mem_cons.mpr ⟨base_2, List.forall_mem_cons.mpr ⟨base_3, List.forall_mem_cons.mpr ⟨base_4, List.forall_mem_cons.mpr ⟨base_5, List.forall_mem_cons.mpr ⟨base_6, List.forall_mem_cons.mpr ⟨base_7, List.forall_mem_cons.mpr ⟨base_8, List.forall_mem_nil _⟩⟩⟩⟩⟩⟩⟩⟩
end
section

def shiftH (t : Int) (his : List Int) : List Int := his.mapIdx fun i h => h + ((i : Int) + 1) * t
def shiftP (t : Int) (ps : List (Int × Int)) : List (Int × Int) := ps.map fun p => (p.1 + p.2 * t, p.2)
def sh (t : Int) : List Int → List Int
  | [p, a, h] => [p + 840 * t, a, h + a * t]
  | xs => xs
theorem shiftH_length (t : Int) (his : List Int) : (shiftH t his).length = his.length := by simp [shiftH]
theorem shiftH_get (t : Int) (his : List Int) (l : Nat) (h1 : 1 ≤ l) (h2 : l ≤ his.length) : (shiftH t his).getD (l - 1) 0 = his.getD (l - 1) 0 + (l : Int) * t := by
  unfold shiftH
  rw [List.getD_eq_getElem?_getD, List.getD_eq_getElem?_getD, List.getElem?_mapIdx, List.getElem?_eq_getElem (by omega)]
  simp only [Option.map_some, Option.getD_some]
  rw [show ((l - 1 : Nat) : Int) + 1 = l from by omega]
theorem shiftH_set (t : Int) (his : List Int) (i : Nat) (v : Int) : (shiftH t his).set i (v + ((i : Int) + 1) * t) = shiftH t (his.set i v) := by
  unfold shiftH
  rw [List.mapIdx_set]
theorem sh_form (his : List Int) (w : Int) (l : Nat) : itemF his w l = [] ∨ ∃ p a h, itemF his w l = [p, a, h] := by
  unfold itemF item
  split
  · exact .inr ⟨_, _, _, rfl⟩
  · split
    · exact .inr ⟨_, _, _, rfl⟩
    · exact .inl rfl
theorem ltL_sh (t : Int) {xs ys : List Int} (h1 : xs = [] ∨ ∃ p a h, xs = [p, a, h]) (h2 : ys = [] ∨ ∃ p a h, ys = [p, a, h]) : ltL (sh t xs) (sh t ys) = ltL xs ys := by
  rcases h1 with rfl | ⟨p, a, h, rfl⟩ <;> rcases h2 with rfl | ⟨q, b, k, rfl⟩
  · rfl
  · rfl
  · rfl
  · show ltL [p + 840 * t, a, h + a * t] [q + 840 * t, b, k + b * t] = ltL [p, a, h] [q, b, k]
    unfold ltL
    by_cases e1 : p = q
    · rw [if_pos (by omega), if_pos e1]
      unfold ltL
      by_cases e2 : a = b
      · subst e2
        rw [if_pos rfl, if_pos rfl]
        unfold ltL
        by_cases e3 : h = k
        · rw [if_pos (by omega), if_pos e3]
        · rw [if_neg (by omega), if_neg e3]
          exact decide_eq_decide.mpr (by omega)
      · rw [if_neg e2, if_neg e2]
    · rw [if_neg (by omega), if_neg e1]
      exact decide_eq_decide.mpr (by omega)
theorem div840 {l : Nat} (h1 : 1 ≤ l) (h2 : l ≤ 8) : (l : Int) * ((840 / l : Nat) : Int) = 840 := by
  have : ∀ l ∈ ([1, 2, 3, 4, 5, 6, 7, 8] : List Nat), (l : Int) * ((840 / l : Nat) : Int) = 840 := by decide
  exact this l (by simp; omega)
theorem item_sh (t : Int) (his : List Int) (h8 : his.length ≤ 8) (l : Nat) : item (shiftH t his) l = sh t (item his l) := by
  unfold item
  rw [shiftH_length]
  by_cases h : 1 ≤ l ∧ l ≤ his.length
  · rw [if_pos h, if_pos h, shiftH_get t his l h.1 h.2]
    show _ = [_, _, _]
    rw [Int.add_mul, Int.mul_assoc, Int.mul_comm t, ← Int.mul_assoc, div840 h.1 (by omega)]
  · rw [if_neg h, if_neg h]
    rfl
theorem itemF_sh (t : Int) (his : List Int) (w : Int) (h8 : his.length ≤ 8) (l : Nat) : itemF (shiftH t his) (w + 840 * t) l = sh t (itemF his w l) := by
  unfold itemF
  split
  · show _ = [_, _, _]
    rw [show w + 840 * t - 1 = w - 1 + 840 * t from by omega, show (0 : Int) + 0 * t = 0 from by omega]
  · exact item_sh t his h8 l
theorem ltF_sh (t : Int) (his : List Int) (w : Int) (h8 : his.length ≤ 8) : ltF (shiftH t his) (w + 840 * t) = ltF his w := by
  funext a b
  unfold ltF
  rw [itemF_sh t his w h8, itemF_sh t his w h8]
  exact ltL_sh t (sh_form ..) (sh_form ..)
theorem item_form (his : List Int) (l : Nat) : item his l = [] ∨ ∃ p a h, item his l = [p, a, h] := by
  unfold item
  split
  · exact .inr ⟨_, _, _, rfl⟩
  · exact .inl rfl
theorem ltI_sh (t : Int) (his : List Int) (h8 : his.length ≤ 8) : ltI (shiftH t his) = ltI his := by
  funext a b
  unfold ltI
  rw [item_sh t his h8, item_sh t his h8]
  exact ltL_sh t (item_form ..) (item_form ..)

theorem nRun_sh (t : Int) (B : Nat) (h8 : B ≤ 8) : ∀ (n : Nat) (his : List Int) (hs : List Nat) (acc : List (Int × Int)), his.length = B →
    nRun B n (shiftH t his) hs (shiftP t acc) = (nRun B n his hs acc).map fun r => (shiftH t r.1, r.2.1, shiftP t r.2.2)
  | 0, his, hs, acc, _ => rfl
  | n + 1, his, [], acc, _ => rfl
  | n + 1, his, low :: rest, acc, hl => by
    unfold nRun
    by_cases h : 1 ≤ low ∧ low ≤ B ∧ ¬ low ∈ rest
    · simp only [if_pos h]
      have e1 : (shiftH t his).getD (low - 1) 0 = his.getD (low - 1) 0 + (low : Int) * t := shiftH_get t his low h.1 (by omega)
      have e2 : (shiftH t his).set (low - 1) ((shiftH t his).getD (low - 1) 0 + 1) = shiftH t (his.set (low - 1) (his.getD (low - 1) 0 + 1)) := by
        rw [← shiftH_set, e1, show ((low - 1 : Nat) : Int) + 1 = low from by omega]
        congr 1
        omega
      rw [e2, ltI_sh t _ (by simp; omega), e1]
      have e3 : shiftP t acc ++ [(his.getD (low - 1) 0 + (low : Int) * t, (low : Int))] = shiftP t (acc ++ [(his.getD (low - 1) 0, (low : Int))]) := by simp [shiftP]
      rw [e3]
      exact nRun_sh t B h8 n _ _ _ (by simp; omega)
    · simp only [if_neg h]
      rfl
theorem nRun_len (B : Nat) : ∀ (n : Nat) (his : List Int) (hs : List Nat) (acc : List (Int × Int)) (r : List Int × List Nat × List (Int × Int)), nRun B n his hs acc = some r → r.1.length = his.length
  | 0, his, hs, acc, r, h => by
    injection h with h
    rw [← h]
  | n + 1, his, [], acc, r, h => by cases h
  | n + 1, his, low :: rest, acc, r, h => by
    unfold nRun at h
    simp only at h
    split at h
    · rw [nRun_len B n _ _ _ r h]
      simp
    · cases h
theorem nFinal_sh (t : Int) (B : Nat) (h8 : B ≤ 8) (his : List Int) (hl : his.length = B) (hs : List Nat) : nFinal B (shiftH t his) hs = nFinal B his hs := by
  cases hs with
  | nil => rfl
  | cons low rest =>
    unfold nFinal
    by_cases h : 1 ≤ low ∧ low ≤ B ∧ ¬ low ∈ rest
    · have e1 : (shiftH t his).getD (low - 1) 0 * ((840 / low : Nat) : Int) = his.getD (low - 1) 0 * ((840 / low : Nat) : Int) + 840 * t := by
        rw [shiftH_get t his low h.1 (by omega), Int.add_mul, Int.mul_assoc, Int.mul_comm t, ← Int.mul_assoc, div840 h.1 (by omega)]
      simp only [e1, ltF_sh t his _ (show his.length ≤ 8 by omega)]
    · have : decide (1 ≤ low ∧ low ≤ B ∧ ¬ low ∈ rest) = false := decide_eq_false h
      simp only [this, Bool.false_and]
theorem his0_sh (t : Int) (B : Nat) (x : Int) (b : Nat) (hb : 1 ≤ b) : his0 B (x + b * t) b = shiftH t (his0 B x b) := by
  unfold his0 shiftH
  apply List.ext_getElem?
  intro i
  rw [List.getElem?_mapIdx, List.getElem?_map, List.getElem?_map]
  by_cases hi : i < B
  · rw [List.getElem?_range hi]
    simp only [Option.map_some]
    congr 1
    have e : -(x + (b : Int) * t) * ((i : Int) + 1) = -x * ((i : Int) + 1) + (b : Int) * (-(((i : Int) + 1) * t)) := by
      rw [Int.neg_add, Int.add_mul, Int.mul_neg, ← Int.neg_mul, Int.mul_assoc, Int.mul_comm t, ← Int.neg_mul]
    rw [e, Int.add_mul_ediv_left _ _ (by omega)]
    omega
  · rw [List.getElem?_eq_none (by simp; omega)]
    rfl
theorem mod_sh (t : Int) (x : Int) (b : Nat) (k : Int) : ((x + b * t) * k + 1) % (b : Int) = (x * k + 1) % (b : Int) := by
  rw [Int.add_mul, Int.mul_assoc, Int.add_right_comm, Int.add_mul_emod_self_left]
theorem lowOf_sh (t : Int) (B : Nat) (x : Int) (b : Nat) : lowOf B (x + b * t) b = lowOf B x b := by
  unfold lowOf
  simp only [mod_sh]
theorem lowOf_le (B : Nat) (x : Int) (b : Nat) (hB : 1 ≤ B) : 1 ≤ lowOf B x b ∧ lowOf B x b ≤ B := by
  unfold lowOf
  refine ⟨by omega, ?_⟩
  rw [List.getLastD_eq_getLast?]
  cases h : ((List.range B).filter fun i : Nat => decide ((x * ((i : Int) + 1) + 1) % (b : Int) = 0)).getLast? with
  | none => simpa using hB
  | some v =>
    have := List.mem_range.mp (List.mem_filter.mp (List.mem_of_getLast? h)).1
    simp only [Option.getD_some]
    omega
theorem toldRow_sh (t : Int) (x : Int) (b k : Nat) : toldRow (x + b * t) b k = shiftP t (toldRow x b k) := by
  unfold toldRow shiftP
  rw [List.map_map]
  refine List.map_congr_left fun i _ => ?_
  simp only [Function.comp]
  rw [Int.mul_add, Int.mul_assoc]
theorem toldLoop_sh (t : Int) (B : Nat) : ∀ (n : Nat) (x h : Int) (b l : Nat), b ≤ B → 1 ≤ l → l ≤ B → toldLoop B n (x + b * t) (h + l * t) b l = shiftP t (toldLoop B n x h b l)
  | 0, x, h, b, l, _, _, _ => rfl
  | n + 1, x, h, b, l, hb, hl1, hl2 => by
    unfold toldLoop
    have hTn : B < (B + b) / l * l - b + l ∧ (B + b) / l * l ≤ B + b ∧ b ≤ (B + b) / l * l := by
      have g1 := Nat.div_add_mod (B + b) l
      have g2 := Nat.mod_lt (B + b) (show l > 0 by omega)
      rw [Nat.mul_comm] at g1
      omega
    generalize (B + b) / l = T at *
    have e : (T : Int) * (h + l * t) - (x + b * t) = ((T : Int) * h - x) + ((T * l - b : Nat) : Int) * t := by
      rw [Int.natCast_sub hTn.2.2, Int.natCast_mul, Int.sub_mul, Int.mul_add, Int.mul_assoc]
      omega
    rw [e, toldRow_sh, toldLoop_sh t B n h _ l _ hl2 (by omega) (by omega)]
    simp [shiftP]
theorem toldP_sh (t : Int) (B : Nat) (x : Int) (b : Nat) (hb : 1 ≤ b) (hbB : b ≤ B) : toldP B (x + b * t) b = shiftP t (toldP B x b) := by
  unfold toldP
  have hl := lowOf_le B x b (by omega)
  rw [lowOf_sh]
  generalize lowOf B x b = l at *
  have e : ((x + (b : Int) * t) * (l : Int) + 1) / (b : Int) = (x * l + 1) / b + (l : Int) * t := by
    rw [Int.add_mul, Int.mul_assoc, Int.add_right_comm, Int.add_mul_ediv_left _ _ (by omega), Int.mul_comm t]
  rw [e]
  exact toldLoop_sh t B 7 x _ b l hbB hl.1 hl.2
theorem shiftP_inj {t : Int} {as bs : List (Int × Int)} (h : shiftP t as = shiftP t bs) : as = bs := by
  have inv : ∀ as, shiftP (-t) (shiftP t as) = as := fun as => by
    unfold shiftP
    rw [List.map_map]
    conv => rhs; rw [← List.map_id as]
    refine List.map_congr_left fun p _ => ?_
    simp only [Function.comp, id]
    rw [Int.mul_neg, Int.add_neg_cancel_right]
  rw [← inv as, h, inv]
theorem lawP_sh (t : Int) (B : Nat) (h8 : B ≤ 8) (x : Int) (b : Nat) (hb : 1 ≤ b) (hbB : b ≤ B) (h : lawP B x b = true) : lawP B (x + b * t) b = true := by
  unfold lawP at h ⊢
  simp only [mod_sh]
  have hl0 : (his0 B x b).length = B := by simp [his0]
  rw [his0_sh t B x b hb, toldP_sh t B x b hb hbB, ltI_sh t _ (by omega)]
  have e0 : (shiftP t (toldP B x b)).length = (toldP B x b).length := by simp [shiftP]
  rw [e0]
  have e1 := nRun_sh t B h8 (toldP B x b).length (his0 B x b) (heapLoop (ltI (his0 B x b)) (B / 2) ((List.range B).map (· + 1))) [] hl0
  rw [show shiftP t [] = [] from rfl] at e1
  rw [e1]
  rw [Bool.and_eq_true] at h ⊢
  refine ⟨h.1, ?_⟩
  have h2 := h.2
  cases hr : nRun B (toldP B x b).length (his0 B x b) (heapLoop (ltI (his0 B x b)) (B / 2) ((List.range B).map (· + 1))) [] with
  | none => rw [hr] at h2; cases h2
  | some r =>
    rw [hr] at h2
    obtain ⟨his, hs, acc⟩ := r
    have hlen := nRun_len B _ _ _ _ _ hr
    simp only [Option.map_some] at h2 ⊢
    rw [Bool.and_eq_true] at h2 ⊢
    refine ⟨?_, ?_⟩
    · have := eq_of_beq h2.1
      rw [this]
      exact beq_self_eq_true _
    · rw [nFinal_sh t B h8 his (by simpa [hl0] using hlen)]
      exact h2.2
theorem law_all (B : Nat) (hB : 1 ≤ B) (h8 : B ≤ 8) (b : Nat) (hb : 1 ≤ b) (hbB : b ≤ B) (x : Int) (hg : Nat.gcd (x % b).toNat b = 1) : lawP B x b = true := by
  have hm : 0 ≤ x % (b : Int) ∧ x % (b : Int) < b := ⟨Int.emod_nonneg _ (by omega), Int.emod_lt_of_pos _ (by omega)⟩
  have e : x = ((x % b).toNat : Int) + b * (x / b) := by
    rw [Int.toNat_of_nonneg hm.1]
    exact (Int.emod_add_mul_ediv x b).symm
  rw [e]
  refine lawP_sh _ B h8 _ b hb hbB (base_law B (by simp; omega) b (List.mem_map.mpr ⟨b - 1, List.mem_range.mpr (by omega), by omega⟩) _ (List.mem_filter.mpr ⟨List.mem_range.mpr (by omega), by simpa using hg⟩))
end
section

section
variable {prog : Program} {w : World} {A : Around} {E : Value → Shared → Prop} {s : Shared} {h₀ : Heap} {L l : Addr} {m : Str → Option Value} {led : Led} {n : Nat} {v : Value}
/-- list.sort of a list of one item -/
theorem sort_one {a : Addr} {P : PySem.Fin → Shared → Prop} (Fx : Fr h₀ L s.heap m) (N : News h₀ L s.heap led) (ho : s.heap.get? a = some (seqObj "list" [v].toArray n)) (haL : a ≠ L) (ha0 : h₀.get? a = none) (hna : ∀ p ∈ led, p.1 ≠ a)
    (h : ∀ c h', Fr h₀ L h' m → News h₀ L h' ((a, seqObj "list" [v].toArray c) :: led) → P (.done (.ret .none)) { s with heap := h' }) : wpAny (model prog w) A (Builtin.«list.sort» ⟨[.ref a], []⟩) P E s := by
  have sz : ∀ k : Nat, k < 64 → k ≤ sizeLine := fun k hk => by rw [sizeLine_eq]; omega
  have s1 := Heap.SameBut.update s.heap a (Obj.mapSeq fun _ => (#[] : Array Value))
  obtain ⟨e1, ho1⟩ : ∃ e1, (s.heap.update a (Obj.mapSeq fun _ => (#[] : Array Value))).get? a = some (seqObj "list" #[] e1) := ⟨_, get?_update_seq ho fun _ => #[]⟩
  have F3 : Fr h₀ L (((s.heap.update a (Obj.mapSeq fun _ => (#[] : Array Value))).push (seqObj "tuple" [v].toArray 0)).push (seqObj "list" #[] 0)) m := ((kas_fr Fx s1 haL ha0).push _).push _
  have N2 : News h₀ L (((s.heap.update a (Obj.mapSeq fun _ => (#[] : Array Value))).push (seqObj "tuple" [v].toArray 0)).push (seqObj "list" #[] 0)) led :=
    (kas_news N s1 hna).grown fun b x e => Heap.get?_push_of_some _ (Heap.get?_push_of_some _ e)
  have na : (((s.heap.update a (Obj.mapSeq fun _ => (#[] : Array Value))).push (seqObj "tuple" [v].toArray 0)).push (seqObj "list" #[] 0)).get? a = some (seqObj "list" #[] e1) := Heap.get?_push_of_some _ (Heap.get?_push_of_some _ ho1)
  rw [list_sort_plain]
  refine wpAny_bind (listItems_at ho rfl ?_)
  refine wpAny_bind (listUpdate_at ho rfl ?_ (sz _ (by simp)) (Nat.zero_le _))
  refine wpAny_bind (seqEpoch_at ho1 rfl ?_)
  refine wpAny_bind (wpAny_newTuple ?_ (sz _ (by simp)))
  refine wpAny_bind (wpAny_newList ?_ (Nat.zero_le _))
  refine wpAny_holding ?_
  show wpAny (model prog w) A _ P E { s with heap := ((s.heap.update a (Obj.mapSeq fun _ => (#[] : Array Value))).push (seqObj "tuple" [v].toArray 0)).push (seqObj "list" #[] 0) }
  dsimp only
  have hn2 : [v].toArray.size < 2 := by simp
  rw [if_pos hn2, if_pos hn2]
  refine wpAny_bind (wpAny_pure ?_)
  refine wpAny_bind (wpAny_pure ?_)
  dsimp only
  refine wpAny_bind (seqEpoch_at na rfl ?_)
  have s2 := Heap.SameBut.update (((s.heap.update a (Obj.mapSeq fun _ => (#[] : Array Value))).push (seqObj "tuple" [v].toArray 0)).push (seqObj "list" #[] 0)) a (Obj.mapSeq fun _ => [v].toArray)
  obtain ⟨c2, hc2⟩ : ∃ c2, ((((s.heap.update a (Obj.mapSeq fun _ => (#[] : Array Value))).push (seqObj "tuple" [v].toArray 0)).push (seqObj "list" #[] 0)).update a (Obj.mapSeq fun _ => [v].toArray)).get? a = some (seqObj "list" [v].toArray c2) := ⟨_, get?_update_seq na fun _ => [v].toArray⟩
  have hout : ∀ κ, (arrOf (SortSt.mk' κ ([v].toArray.zip [v].toArray) #[] 7 none)).map (·.2) = [v].toArray := fun κ => by
    have e : arrOf (SortSt.mk' κ ([v].toArray.zip [v].toArray) #[] 7 none) = [v].toArray.zip [v].toArray := rfl
    rw [e]
    simp
  rw [hout]
  refine wpAny_bind (listUpdate_at na rfl ?_ (Nat.zero_le _) (by simp [sizeLine_eq]))
  rw [if_neg (show ¬ ((e1 != e1) = true) by simp)]
  refine wpAny_pure (h c2 _ (kas_fr F3 s2 haL ha0) fun p hp => ?_)
  rcases List.mem_cons.mp hp with rfl | hp
  · exact ⟨hc2, haL, ha0⟩
  · exact kas_news N2 s2 hna p hp
theorem my_sorted1 {Q : Value → Shared → Prop} (Fx : Fr h₀ L s.heap m) (N : News h₀ L s.heap led) (hm : (l, listOf [v].toArray n) ∈ led)
    (h : ∀ D c h', Fr h₀ L h' m → News h₀ L h' ((D, listOf [v].toArray c) :: led) → (∀ q ∈ led, q.1 < D) → Q (.ref D) { s with heap := h' }) :
    wpAny (model prog w) A (call (.builtin "sorted") [.ref l]) Q E s := by
  have sz : ∀ k : Nat, k < 64 → k ≤ sizeLine := fun k hk => by rw [sizeLine_eq]; omega
  have hl : s.heap.IsList l [v].toArray := ⟨_, (N _ hm).1, rfl, n, rfl⟩
  refine Calls.call_function_entry kind_sorted plain_sorted entry_sorted (args_sorted1 _) ?_
  unfold Builtin.«sorted»
  refine wpAny_bind (m := checkCount "sorted" 1 1 _) (wpAny_pure ?_)
  refine wpAny_bind (collect_list hl ?_ (sz _ (by simp)))
  refine wpAny_bind (wpAny_newList ?_ (sz _ (by simp)))
  have hsz : ((s.heap.push (seqObj "list" #[] 0)).update s.heap.objs.size (Obj.mapSeq (· ++ [v].toArray))).objs.size = s.heap.objs.size + 1 := by
    rw [Heap.size_update, size_push']
  have hoL : (((s.heap.push (seqObj "list" #[] 0)).update s.heap.objs.size (Obj.mapSeq (· ++ [v].toArray))).push (seqObj "list" [v].toArray 0)).get? (s.heap.objs.size + 1) = some (seqObj "list" [v].toArray 0) := by
    rw [← hsz]; exact Heap.get?_push_size _ rfl
  have keep : ∀ b o, s.heap.get? b = some o → (((s.heap.push (seqObj "list" #[] 0)).update s.heap.objs.size (Obj.mapSeq (· ++ [v].toArray))).push (seqObj "list" [v].toArray 0)).get? b = some o := fun b o q => by
    have hlt : b < s.heap.objs.size := Heap.lt_size q
    rw [Heap.get?_push_ne _ _ _ (by rw [hsz]; exact Nat.ne_of_lt (Nat.lt_succ_of_lt hlt)), Heap.get?_update_ne _ _ _ _ (Nat.ne_of_lt hlt), Heap.get?_push_ne _ _ _ (Nat.ne_of_lt hlt)]
    exact q
  have hL : L < s.heap.objs.size := Fx.ns.lt
  show wpAny _ _ _ _ _ { s with heap := ((s.heap.push (seqObj "list" #[] 0)).update s.heap.objs.size (Obj.mapSeq (· ++ [v].toArray))).push (seqObj "list" [v].toArray 0) }
  rw [hsz]
  refine wpAny_bind (wpAny_holding (wpAny_call_entry slot_list_sort ⟨_, hoL, rfl⟩ entry_list_sort ?body (args_list_sort _)))
  case body =>
    refine sort_one (s := { s with heap := ((s.heap.push (seqObj "list" #[] 0)).update s.heap.objs.size (Obj.mapSeq (· ++ [v].toArray))).push (seqObj "list" [v].toArray 0) })
      (Fx.kept keep) (N.grown keep) hoL (Nat.ne_of_gt (Nat.lt_succ_of_lt hL)) (Heap.get?_none_of_le (Nat.le_trans Fx.above (Nat.le_succ_of_le (Nat.le_of_lt hL))))
      (fun p hp => Nat.ne_of_lt (Nat.lt_succ_of_lt (Heap.lt_size (N p hp).1))) fun c h' F' N' => ?_
    exact ⟨_, rfl, wpAny_pure ⟨_, rfl, h _ c h' F' N' fun q hq => Nat.lt_succ_of_lt (Heap.lt_size (N q hq).1)⟩⟩
end
end
section

theorem plain_list (its : Array Value) (n : Nat) : Plain (listOf its n) := ⟨solid_list its n, fun vs q t h => by cases h⟩
theorem plain_tup (vs : List Value) : Plain (tupOf vs) := ⟨.of_cls (by nofun), fun vs q t h => by cases h⟩
theorem plain_it {o : Obj} (ho : ∃ a n c, o = rangeIt a n c) : Plain o := ⟨solid_it ho, by
  obtain ⟨a, n, c, rfl⟩ := ho
  intro vs q t h e
  injection h with h
  subst h
  cases e⟩
theorem plain_ns {o : Obj} {m : Str → Option Value} (n : NsObj o m) : Plain o := ⟨n.solid, fun vs q t h => by
  obtain ⟨es, ep, e2, _⟩ := n
  rw [e2] at h
  cases h⟩
theorem solid_cell {o : Obj} {v : Option Value} (hd : o.data = .cell v) : Solid o := .of_data (cell_not_fields hd)
/-- the ledger without the entry at I -/
abbrev offA (I : Addr) (led : Led) : Led := led.filter fun p => p.1 ≠ I
theorem mem_offA {I : Addr} {led : Led} {p : Addr × Obj} : p ∈ offA I led ↔ p ∈ led ∧ p.1 ≠ I := by simp [offA]
theorem TabOk.drop {h₀ h : Heap} {L I P : Addr} {pos : Pos} {qual : Str} {o : Obj} {led : Led} (N : News h₀ L h led) (T : TabOk P pos qual led) (hm : (I, o) ∈ led) (ho : Plain o) : TabOk P pos qual (offA I led) := by
  have hIP : I ≠ P := Solid.ne N T hm ho.1
  obtain ⟨ps, h1, h2⟩ := T
  refine ⟨ps, mem_offA.mpr ⟨h1, hIP.symm⟩, ?_⟩
  rcases h2 with rfl | ⟨c', oc, vs, t, rfl, hc, hd, hv⟩
  · exact .inl rfl
  · refine .inr ⟨c', oc, vs, t, rfl, mem_offA.mpr ⟨hc, fun e => ?_⟩, hd, hv⟩
    simp only at e
    subst e
    obtain rfl := news_same N hc hm
    exact ho.2 _ _ _ hd hv
theorem Tabs.drop {h₀ h : Heap} {L I : Addr} {o : Obj} {led : Led} (N : News h₀ L h led) (T : Tabs led) (hm : (I, o) ∈ led) (ho : Plain o) : Tabs (offA I led) := ⟨T.1.drop N hm ho, T.2.drop N hm ho⟩
theorem news_offA {h₀ h : Heap} {L I : Addr} {led : Led} (N : News h₀ L h led) : News h₀ L h (offA I led) := news_sub N fun _ hp => (mem_offA.mp hp).1

section
variable {prog : Program} {w : World} {A : Around} {E : Value → Shared → Prop} {s : Shared} {h₀ : Heap} {L D : Addr} {m : Str → Option Value} {led : Led} {n : Nat} {k : Int} {t u : Tok}
theorem sub_ints {value slice : PySem.Expr} {vs : List Value} {xs : List Int} {Q : Value → Shared → Prop} (N : News h₀ L s.heap led) (hm : (D, listOf vs.toArray n) ∈ led) (hi : IntsAre vs xs) (h0 : 0 ≤ k) (h1 : k < xs.length) (hz : xs.length < 1000)
    (h : ∀ x, xs[k.toNat]? = some x → ∀ t, Q (.int x t) s)
    (hs : subscripted slice false (.ref D) (.int k u) = operate [.ref D, .int k u] (getItem (.ref D) (.int k u)) := by with_unfolding_all rfl) (hg : ∀ r, letTemporaryGo value (.ref D) r = pure () := by intro _; with_unfolding_all rfl) :
    wpAny (model prog w) A (subscriptTail value slice (.ref D) (.int k u)) Q E s := by
  have hk : k.toNat < xs.length := by omega
  obtain ⟨t, ht⟩ := hi.get k.toNat xs[k.toNat] (by simp [hk])
  exact kim_list N hm rfl rfl h0 (by omega) ht (h _ (by simp [hk]) t) hs hg
theorem set_mem {as : List Addr} {a : Addr} {Q : Unit → Shared → Prop} (F : Fr h₀ L s.heap m) (N : News h₀ L s.heap led) (hm : (D, refs as n) ∈ led) (h0 : 0 ≤ k) (h1 : k < as.length) (hz : as.length < 1000)
    (h : ∀ h' led' e, Fr h₀ L h' m → News h₀ L h' led' → (D, refs (as.set k.toNat a) e) ∈ led' → (∀ p ∈ led, p.1 ≠ D → p ∈ led') → Q () { s with heap := h' }) :
    wpAny (model prog w) A (setItem (.ref D) (.int k t) (.ref a)) Q E s := by
  have z := N _ hm
  have hs : (as.map Value.ref).toArray.size = as.length := by simp
  have ho' := PySem.IsL.update z.1 (fun x => x.setIfInBounds k.toNat (.ref a))
  have e1 : (as.map Value.ref).toArray.setIfInBounds k.toNat (.ref a) = ((as.set k.toNat a).map Value.ref).toArray := by
    apply Array.toList_inj.mp
    simp
  rw [e1] at ho'
  obtain ⟨led', n1, n2, n3, n4⟩ := news_upd N hm (Heap.SameBut.update ..) ho'
  exact ki_setAt z.1 h0 (by omega) (by omega) (h _ led' _ (F.change (Heap.SameBut.update ..) z.2.1 z.2.2) n1 n2 n3)
end

theorem heapify_mem (w : World) (H : Addr) (as : List Addr) (n : Nat) (key : Addr → List Int) (hz : as.length < 1000) :
    Spec w 28 6 30 [.ref H] (fun news => (H, refs as n) ∈ news ∧ KeyIn news key as) (fun news r news' => r = .none ∧ (H, refs (heapLoop (ltK key) (as.length / 2) as) n) ∈ news' ∧ (∀ p ∈ news, p.1 ≠ H → p ∈ news')) := by
  intro p loose mean mg mb dp un gd cn cs' a ccd cl outer A₀ base h₀ L m news s Q E B F X N T hk hd hu ⟨hm, hkey⟩ hret
  obtain ⟨rest, N', hne, hin, hout⟩ := news_front N hm
  refine heapify_spec w H as n rest key hz p loose mean mg mb dp un gd cn cs' a ccd cl outer A₀ base h₀ L m _ s Q E B F X N' T hk hd hu ⟨rfl, hne, key_front N hm hkey hin⟩ ?_
  rintro r news' h' tk' F' N'' ⟨rfl, rest', r1, r2, rfl⟩
  exact hret _ _ _ _ F' N'' ⟨rfl, .head _, fun q hq hqn => .tail _ (r1 q (hin q hq hqn))⟩

/-- the address of a low; the key of an address -/
def adr (las : List Addr) (l : Nat) : Addr := if 1 ≤ l ∧ l ≤ las.length then las.getD (l - 1) 0 else 0
def keyA (his : List Int) (las : List Addr) (y : Addr) : List Int := item his (las.idxOf y + 1)
theorem adr_at {las : List Addr} {l : Nat} (h1 : 1 ≤ l) (h2 : l ≤ las.length) : adr las l = las[l - 1]'(by omega) := by
  unfold adr
  rw [if_pos ⟨h1, h2⟩, List.getD_eq_getElem?_getD, List.getElem?_eq_getElem (by omega)]
  rfl
theorem adr_mem {las : List Addr} {l : Nat} (h1 : 1 ≤ l) (h2 : l ≤ las.length) : adr las l ∈ las := by
  rw [adr_at h1 h2]
  exact List.getElem_mem _
theorem adr_out {las : List Addr} {l : Nat} (h : ¬ (1 ≤ l ∧ l ≤ las.length)) : adr las l = 0 := by
  unfold adr
  rw [if_neg h]
theorem adr_range (las : List Addr) : ((List.range las.length).map (· + 1)).map (adr las) = las := by
  apply List.ext_getElem
  · simp
  · intro i h1 h2
    simp only [List.getElem_map, List.getElem_range]
    rw [adr_at (by omega) (by omega)]
    simp
theorem item_out {his : List Int} {l : Nat} (h : ¬ (1 ≤ l ∧ l ≤ his.length)) : item his l = [] := by
  unfold item
  rw [if_neg h]
theorem keyA_adr {his : List Int} {las : List Addr} (hl : his.length = las.length) (hn : las.Nodup) (h0 : 0 ∉ las) (l : Nat) : keyA his las (adr las l) = item his l := by
  unfold keyA
  by_cases h : 1 ≤ l ∧ l ≤ las.length
  · rw [adr_at h.1 h.2, hn.idxOf_getElem]
    rw [show l - 1 + 1 = l from by omega]
  · rw [adr_out h, List.idxOf_eq_length h0, item_out (by omega), item_out (by omega)]
theorem ltK_adr {his : List Int} {las : List Addr} (hl : his.length = las.length) (hn : las.Nodup) (h0 : 0 ∉ las) : (fun a b => ltK (keyA his las) (adr las a) (adr las b)) = ltI his := by
  funext a b
  show ltL _ _ = ltL _ _
  rw [keyA_adr hl hn h0, keyA_adr hl hn h0]
theorem adr_inj {las : List Addr} (hn : las.Nodup) {a b : Nat} (a1 : 1 ≤ a) (a2 : a ≤ las.length) (b1 : 1 ≤ b) (b2 : b ≤ las.length) (h : adr las a = adr las b) : a = b := by
  rw [adr_at a1 a2, adr_at b1 b2] at h
  have := (List.getElem_inj hn).mp h
  omega
theorem adr_set_self {las : List Addr} {l : Nat} {f : Addr} (h1 : 1 ≤ l) (h2 : l ≤ las.length) : adr (las.set (l - 1) f) l = f := by
  rw [adr_at h1 (by simpa using h2)]
  simp
theorem adr_set_other {las : List Addr} {l k : Nat} {f : Addr} (h1 : 1 ≤ l) (hk : k ≠ l) : adr (las.set (l - 1) f) k = adr las k := by
  by_cases h : 1 ≤ k ∧ k ≤ las.length
  · rw [adr_at h.1 (by simpa using h.2), adr_at h.1 h.2, List.getElem_set_ne (by omega)]
  · rw [adr_out h, adr_out (by simpa using h)]
theorem nodup_set {las : List Addr} {i : Nat} {f : Addr} (hn : las.Nodup) (hf : f ∉ las) : (las.set i f).Nodup := by
  rw [List.nodup_iff_pairwise_ne] at hn ⊢
  rw [List.pairwise_iff_getElem] at hn ⊢
  intro a b ha hb hab
  rw [List.length_set] at ha hb
  rw [List.getElem_set, List.getElem_set]
  split
  · split
    · omega
    · exact fun e => hf (e ▸ List.getElem_mem _)
  · split
    · exact fun e => hf (e ▸ List.getElem_mem _)
    · exact hn a b ha hb hab
end
section

def stepsP (B : Nat) : List Int := (List.range B).map fun i : Nat => ((840 / (i + 1) : Nat) : Int)
theorem stepsP_length (B : Nat) : (stepsP B).length = B := by simp [stepsP]
theorem stepsP_get {B l : Nat} {x : Int} (h1 : 1 ≤ l) (h : (stepsP B)[l - 1]? = some x) : x = ((840 / l : Nat) : Int) := by
  unfold stepsP at h
  rw [List.getElem?_map] at h
  by_cases hl : l - 1 < B
  · rw [List.getElem?_range hl] at h
    injection h with h
    rw [← h]
    show ((840 / (l - 1 + 1) : Nat) : Int) = _
    rw [show l - 1 + 1 = l from by omega]
  · rw [List.getElem?_eq_none (by simpa using hl)] at h
    cases h
theorem stepsP_succ (i : Nat) : stepsP (i + 1) = stepsP i ++ [((840 / (i + 1) : Nat) : Int)] := by
  unfold stepsP
  rw [List.range_succ, List.map_append]
  rfl
/-- a list of worth, low, high -/
abbrev item3 (h : Int) (l : Nat) (t1 t2 t3 : Tok) (e : Nat) : Obj := listOf [Value.int (h * ((840 / l : Nat) : Int)) t1, .int (l : Int) t2, .int h t3].toArray e
theorem item3_ints (h : Int) (l : Nat) (t1 t2 t3 : Tok) : IntsAre [Value.int (h * ((840 / l : Nat) : Int)) t1, .int (l : Int) t2, .int h t3] [h * ((840 / l : Nat) : Int), (l : Int), h] := .cons _ _ (.cons _ _ (.cons _ _ .nil))
theorem item_in {his : List Int} {l : Nat} (h1 : 1 ≤ l) (h2 : l ≤ his.length) : item his l = [his.getD (l - 1) 0 * ((840 / l : Nat) : Int), (l : Int), his.getD (l - 1) 0] := by
  unfold item
  rw [if_pos ⟨h1, h2⟩]
theorem refs_ne_item {as : List Addr} {n : Nat} {h : Int} {l : Nat} {t1 t2 t3 : Tok} {e : Nat} : refs as n ≠ item3 h l t1 t2 t3 e := refs_ne_ints (item3_ints h l t1 t2 t3) rfl
def hi0 (x : Int) (b l : Nat) : Int := -((-x * (l : Int)) / (b : Int))
theorem his0_get {B : Nat} {x : Int} {b l : Nat} (h1 : 1 ≤ l) (h2 : l ≤ B) : (his0 B x b).getD (l - 1) 0 = hi0 x b l := by
  unfold his0 hi0
  rw [List.getD_eq_getElem?_getD, List.getElem?_map, List.getElem?_range (by omega)]
  simp only [Option.map_some, Option.getD_some]
  rw [show ((l - 1 : Nat) : Int) + 1 = l from by omega]
theorem his0_length (B : Nat) (x : Int) (b : Nat) : (his0 B x b).length = B := by simp [his0]

/-- what stands between two turns of the first loop -/
structure LI (news : Led) (Kw Kh Sx La No W : Addr) (B : Nat) (x : Int) (b i : Nat) (las : List Addr) (led : Led) : Prop where
  l1 : las.length = i
  nd : las.Nodup
  z : 0 ∉ las
  cw : ∃ o, (Kw, o) ∈ led ∧ o.data = .cell (some (.ref W))
  ch : ∃ o, (Kh, o) ∈ led ∧ o.data = .cell none
  steps : ∃ vs e, (Sx, listOf vs.toArray e) ∈ led ∧ IntsAre vs (stepsP B)
  laid : ∃ e, (La, refs las e) ∈ led
  noted : ∃ e, (No, refs [] e) ∈ led
  items : ∀ l, 1 ≤ l → l ≤ i → ∃ t1 t2 t3 e, (adr las l, item3 (hi0 x b l) l t1 t2 t3 e) ∈ led
  tabs : Tabs led
  keep : ∀ p ∈ news, Solid p.2 → p ∈ led ∧ p.1 ≠ La ∧ p.1 ≠ No ∧ p.1 ≠ Kh
  ds : Sx ≠ La ∧ No ≠ La ∧ Sx ≠ No
theorem adr_append {las : List Addr} {f : Addr} {l : Nat} (h1 : 1 ≤ l) (h2 : l ≤ las.length) : adr (las ++ [f]) l = adr las l := by
  rw [adr_at h1 (by simp; omega), adr_at h1 h2, List.getElem_append_left (by omega)]
theorem adr_append_last {las : List Addr} {f : Addr} : adr (las ++ [f]) (las.length + 1) = f := by
  rw [adr_at (by omega) (by simp)]
  simp
theorem LI.next {h₀ h h' : Heap} {L : Addr} {news led led' : Led} {Kw Kh Sx La No W : Addr} {B : Nat} {x : Int} {b i : Nat} {las : List Addr} {I f : Addr} {o : Obj} {t1 t2 t3 : Tok} {e e2 : Nat} (T : LI news Kw Kh Sx La No W B x b i las led) (N : News h₀ L h led)
    (hI : ∀ p ∈ led, p.1 ≠ I) (N' : News h₀ L h' led') (hIm : (I, o) ∈ led') (ho : Plain o) (hk : ∀ p ∈ led, Solid p.2 → p.1 ≠ La → p ∈ led') (hlt : ∀ p ∈ led, Solid p.2 → p.1 < f) (hfI : f ≠ I) (hf : (f, item3 (hi0 x b (i + 1)) (i + 1) t1 t2 t3 e) ∈ led')
    (hLa : (La, refs (las ++ [f]) e2) ∈ led') (ht : Tabs led') : LI news Kw Kh Sx La No W B x b (i + 1) (las ++ [f]) (offA I led') := by
  obtain ⟨l1, nd, z, ⟨o1, m1, d1⟩, ⟨o2, m2, d2⟩, ⟨vs, e3, m3, i3⟩, ⟨e4, m4⟩, ⟨e5, m5⟩, it, tb, kp, ds⟩ := T
  have go : ∀ p ∈ led, Solid p.2 → p.1 ≠ La → p ∈ offA I led' := fun p hp hs hn => mem_offA.mpr ⟨hk p hp hs hn, hI p hp⟩
  have hin : ∀ y ∈ las, ∃ q, (y, q) ∈ led ∧ Solid q := fun y hy => by
    obtain ⟨j, hj, rfl⟩ := List.getElem_of_mem hy
    obtain ⟨t1, t2, t3, e, hm⟩ := it (j + 1) (by omega) (by omega)
    rw [adr_at (by omega) (by omega)] at hm
    exact ⟨_, hm, solid_list _ _⟩
  have hfl : f ∉ las := fun hy => by
    obtain ⟨q, h1, h2⟩ := hin f hy
    exact Nat.lt_irrefl _ (hlt _ h1 h2)
  have hf0 : f ≠ 0 := fun e => by
    have := hlt _ m4 (solid_list _ _)
    rw [e] at this
    exact Nat.not_lt_zero _ this
  refine ⟨by simp [l1], ?_, ?_, ⟨o1, go _ m1 (solid_cell d1) (news_ne N m1 m4 (cell_ne_list d1)), d1⟩, ⟨o2, go _ m2 (solid_cell d2) (news_ne N m2 m4 (cell_ne_list d2)), d2⟩, ⟨vs, e3, go _ m3 (solid_list _ _) ds.1, i3⟩, ⟨e2, mem_offA.mpr ⟨hLa, fun e => hI _ m4 e⟩⟩,
    ⟨e5, go _ m5 (solid_list _ _) ds.2.1⟩, ?_, ht.drop N' hIm ho, fun p hp hs => ⟨go p (kp p hp hs).1 hs (kp p hp hs).2.1, (kp p hp hs).2⟩, ds⟩
  · rw [List.nodup_append]
    refine ⟨nd, by simp, ?_⟩
    intro a ha c hc e
    rw [List.mem_singleton] at hc
    exact hfl (hc ▸ e ▸ ha)
  · intro hm
    rcases List.mem_append.mp hm with hm | hm
    · exact z hm
    · exact hf0 (List.mem_singleton.mp hm).symm
  · intro l h1 h2
    by_cases hl : l ≤ i
    · obtain ⟨t1, t2, t3, e, hm⟩ := it l h1 hl
      rw [adr_append h1 (by omega)]
      exact ⟨t1, t2, t3, e, go _ hm (solid_list _ _) (news_ne N hm m4 (Ne.symm refs_ne_item))⟩
    · have : l = i + 1 := by omega
      subst this
      rw [← l1, adr_append_last, l1]
      exact ⟨t1, t2, t3, e, mem_offA.mpr ⟨hf, hfI⟩⟩

/-- what stands between two turns of the while -/
structure NI (news : Led) (Kh Sx La He No : Addr) (B : Nat) (his : List Int) (las : List Addr) (hs : List Nat) (nas : List Addr) (acc : List (Int × Int)) (led : Led) : Prop where
  l1 : las.length = B
  l2 : his.length = B
  nd : las.Nodup
  z : 0 ∉ las
  hl : hs.length = B
  hm : ∀ l ∈ hs, 1 ≤ l ∧ l ≤ B
  ch : ∃ o, (Kh, o) ∈ led ∧ o.data = .cell none
  steps : ∃ vs e, (Sx, listOf vs.toArray e) ∈ led ∧ IntsAre vs (stepsP B)
  laid : ∃ e, (La, refs las e) ∈ led
  heap : ∃ e, (He, refs (hs.map (adr las)) e) ∈ led
  noted : ∃ e, (No, refs nas e) ∈ led
  pairs : PairsAre led nas acc
  items : ∀ l, 1 ≤ l → l ≤ B → ∃ t1 t2 t3 e, (adr las l, item3 (his.getD (l - 1) 0) l t1 t2 t3 e) ∈ led
  tabs : Tabs led
  keep : ∀ p ∈ news, Solid p.2 → p ∈ led ∧ p.1 ≠ La ∧ p.1 ≠ No ∧ p.1 ≠ Kh ∧ p.1 ≠ He
  ds : Sx ≠ La ∧ Sx ≠ He ∧ Sx ≠ No ∧ La ≠ He ∧ La ≠ No ∧ He ≠ No

theorem heapLoop_length {α : Type} (lt : α → α → Bool) : ∀ (k : Nat) (xs : List α), (heapLoop lt k xs).length = xs.length
  | 0, xs => rfl
  | k + 1, xs => by
    unfold heapLoop
    rw [heapLoop_length lt k, siftup_length]
theorem heapLoop_sub {α : Type} (lt : α → α → Bool) : ∀ (k : Nat) (xs : List α) (y : α), y ∈ heapLoop lt k xs → y ∈ xs
  | 0, xs, y, h => h
  | k + 1, xs, y, h => by
    unfold heapLoop at h
    exact siftup_sub _ _ _ _ (heapLoop_sub lt k _ y h)

/-- the key while the next one takes its place -/
def keyT (his : List Int) (las : List Addr) (low : Nat) (f y : Addr) : List Int := if y = adr las low then item his low else keyA (his.set (low - 1) (his.getD (low - 1) 0 + 1)) (las.set (low - 1) f) y
section
variable {his : List Int} {las : List Addr} {low : Nat} {rest : List Nat} {f : Addr} {B : Nat}
theorem head_off (l1 : las.length = B) (nd : las.Nodup) (h1 : 1 ≤ low) (h2 : low ≤ B) (hf : f ∉ las) : adr las low ∉ las.set (low - 1) f := by
  rw [adr_at h1 (by omega)]
  intro hm
  obtain ⟨j, hj, e⟩ := List.getElem_of_mem hm
  rw [List.length_set] at hj
  rw [List.getElem_set] at e
  split at e
  · exact hf (e ▸ List.getElem_mem _)
  · rename_i hne
    exact hne ((List.getElem_inj nd).mp e).symm
theorem keyT_adr (l1 : las.length = B) (l2 : his.length = B) (nd : las.Nodup) (z : 0 ∉ las) (h1 : 1 ≤ low) (h2 : low ≤ B) (hf : f ∉ las) (hf0 : f ≠ 0) (l : Nat) : keyT his las low f (adr (las.set (low - 1) f) l) = item (his.set (low - 1) (his.getD (low - 1) 0 + 1)) l := by
  have hz : 0 ∉ las.set (low - 1) f := fun hm => by
    rcases List.mem_or_eq_of_mem_set hm with h | h
    · exact z h
    · exact hf0 h.symm
  have hne : adr (las.set (low - 1) f) l ≠ adr las low := fun e => by
    by_cases h : 1 ≤ l ∧ l ≤ (las.set (low - 1) f).length
    · exact head_off l1 nd h1 h2 hf (e ▸ adr_mem h.1 h.2)
    · rw [adr_out h] at e
      exact z (e ▸ adr_mem h1 (by omega))
  unfold keyT
  rw [if_neg hne]
  exact keyA_adr (by simp [l1, l2]) (nodup_set nd hf) hz l
theorem heap_turn (l1 : las.length = B) (l2 : his.length = B) (nd : las.Nodup) (z : 0 ∉ las) (h1 : 1 ≤ low) (h2 : low ≤ B) (hr : low ∉ rest) (hf : f ∉ las) (hf0 : f ≠ 0) :
    siftup (ltK (keyT his las low f)) (((low :: rest).map (adr las)).set 0 f) 0 = (siftup (ltI (his.set (low - 1) (his.getD (low - 1) 0 + 1))) (low :: rest) 0).map (adr (las.set (low - 1) f)) := by
  have e1 : ((low :: rest).map (adr las)).set 0 f = (low :: rest).map (adr (las.set (low - 1) f)) := by
    show f :: rest.map (adr las) = adr (las.set (low - 1) f) low :: rest.map (adr (las.set (low - 1) f))
    rw [adr_set_self h1 (by omega)]
    congr 1
    refine List.map_congr_left fun k hk => (adr_set_other h1 fun e => hr (e ▸ hk)).symm
  rw [e1, siftup_map]
  congr 2
  funext a c
  show ltL _ _ = ltL _ _
  rw [keyT_adr l1 l2 nd z h1 h2 hf hf0, keyT_adr l1 l2 nd z h1 h2 hf hf0]
end

theorem NI.fresh {news led : Led} {Kh Sx La He No : Addr} {B : Nat} {his : List Int} {las : List Addr} {hs : List Nat} {nas : List Addr} {acc : List (Int × Int)} {f : Addr} (T : NI news Kh Sx La He No B his las hs nas acc led) (hlt : ∀ p ∈ led, Solid p.2 → p.1 < f) : f ∉ las ∧ f ≠ 0 := by
  refine ⟨fun hy => ?_, fun e => ?_⟩
  · obtain ⟨j, hj, rfl⟩ := List.getElem_of_mem hy
    have hj' : j < B := T.l1 ▸ hj
    obtain ⟨t1, t2, t3, e, hm⟩ := T.items (j + 1) (by omega) (by omega)
    rw [adr_at (by omega) (by omega)] at hm
    exact Nat.lt_irrefl _ (hlt _ hm (solid_list _ _))
  · obtain ⟨e4, m4⟩ := T.laid
    have := hlt _ m4 (solid_list _ _)
    rw [e] at this
    exact Nat.not_lt_zero _ this
/-- the keys that heapreplace reads -/
theorem NI.keys {news led led' : Led} {Kh Sx La He No : Addr} {B : Nat} {his : List Int} {las : List Addr} {low : Nat} {rest : List Nat} {nas : List Addr} {acc : List (Int × Int)} {f : Addr} {t1 t2 t3 : Tok} {e : Nat} (T : NI news Kh Sx La He No B his las (low :: rest) nas acc led)
    (hr : low ∉ rest) (hlt : ∀ p ∈ led, Solid p.2 → p.1 < f) (hk : ∀ p ∈ led, Solid p.2 → p ∈ led') (hf : (f, item3 (his.getD (low - 1) 0 + 1) low t1 t2 t3 e) ∈ led') : KeyIn led' (keyT his las low f) (f :: (low :: rest).map (adr las)) := by
  obtain ⟨hfl, hf0⟩ := T.fresh hlt
  have hlow := T.hm low (.head _)
  have l1 := T.l1
  have l2 := T.l2
  intro a ha
  rcases List.mem_cons.mp ha with rfl | ha
  · refine ⟨_, _, hf, ?_, rfl⟩
    have := keyT_adr l1 l2 T.nd T.z hlow.1 hlow.2 hfl hf0 low
    rw [adr_set_self hlow.1 (by omega)] at this
    rw [this, item_in hlow.1 (by simp; omega)]
    have e9 : (his.set (low - 1) (his.getD (low - 1) 0 + 1)).getD (low - 1) 0 = his.getD (low - 1) 0 + 1 := by
      rw [List.getD_eq_getElem?_getD (l := his.set _ _), List.getElem?_set_self (by omega)]
      rfl
    rw [e9]
    exact item3_ints _ _ _ _ _
  · obtain ⟨l, hl, rfl⟩ := List.mem_map.mp ha
    have hl2 := T.hm l hl
    obtain ⟨s1, s2, s3, e', hm⟩ := T.items l hl2.1 hl2.2
    refine ⟨_, _, hk _ hm (solid_list _ _), ?_, rfl⟩
    by_cases hc : l = low
    · subst hc
      unfold keyT
      rw [if_pos rfl, item_in hl2.1 (by omega)]
      exact item3_ints _ _ _ _ _
    · have := keyT_adr l1 l2 T.nd T.z hlow.1 hlow.2 hfl hf0 l
      rw [adr_set_other hlow.1 hc] at this
      rw [this, item_in hl2.1 (by simp; omega)]
      have e9 : (his.set (low - 1) (his.getD (low - 1) 0 + 1)).getD (l - 1) 0 = his.getD (l - 1) 0 := by
        rw [List.getD_eq_getElem?_getD (l := his.set _ _), List.getElem?_set_ne (by omega), ← List.getD_eq_getElem?_getD]
      rw [e9]
      exact item3_ints _ _ _ _ _
theorem NI.turn {h₀ h : Heap} {L : Addr} {news led led' : Led} {Kh Sx La He No : Addr} {B : Nat} {his : List Int} {las : List Addr} {low : Nat} {rest : List Nat} {nas : List Addr} {acc : List (Int × Int)} {f tp : Addr} {t1 t2 t3 t4 t5 : Tok} {e e2 e3 e4 : Nat}
    (T : NI news Kh Sx La He No B his las (low :: rest) nas acc led) (N : News h₀ L h led) (hlt : ∀ p ∈ led, Solid p.2 → p.1 < f) (hk : ∀ p ∈ led, Solid p.2 → p.1 ≠ He → p.1 ≠ La → p.1 ≠ No → p ∈ led')
    (hf : (f, item3 (his.getD (low - 1) 0 + 1) low t1 t2 t3 e) ∈ led') (hHe : (He, refs ((siftup (ltI (his.set (low - 1) (his.getD (low - 1) 0 + 1))) (low :: rest) 0).map (adr (las.set (low - 1) f))) e2) ∈ led') (hLa : (La, refs (las.set (low - 1) f) e3) ∈ led')
    (hNo : (No, refs (nas ++ [tp]) e4) ∈ led') (htp : (tp, tupOf [.int (his.getD (low - 1) 0) t4, .int (low : Int) t5]) ∈ led') (ht : Tabs led') :
    NI news Kh Sx La He No B (his.set (low - 1) (his.getD (low - 1) 0 + 1)) (las.set (low - 1) f) (siftup (ltI (his.set (low - 1) (his.getD (low - 1) 0 + 1))) (low :: rest) 0) (nas ++ [tp]) (acc ++ [(his.getD (low - 1) 0, (low : Int))]) led' := by
  obtain ⟨hfl, hf0⟩ := T.fresh hlt
  obtain ⟨l1, l2, nd, z, hl, hm, ⟨o2, m2, d2⟩, ⟨vs, e3, m3, i3⟩, ⟨e4, m4⟩, ⟨e5, m5⟩, ⟨e6, m6⟩, pr, it, tb, kp, ds⟩ := T
  have hlow := hm low (.head _)
  refine ⟨by simp [l1], by simp [l2], nodup_set nd hfl, ?_, ?_, ?_, ⟨o2, hk _ m2 (solid_cell d2) (news_ne N m2 m5 (cell_ne_list d2)) (news_ne N m2 m4 (cell_ne_list d2)) (news_ne N m2 m6 (cell_ne_list d2)), d2⟩, ⟨vs, e3, hk _ m3 (solid_list _ _) ds.2.1 ds.1 ds.2.2.1, i3⟩, ⟨_, hLa⟩, ⟨_, hHe⟩, ⟨_, hNo⟩, ?_, ?_, ht, ?_, ds⟩
  · intro hm
    rcases List.mem_or_eq_of_mem_set hm with h | h
    · exact z h
    · exact hf0 h.symm
  · rw [siftup_length]
    exact hl
  · exact fun l h => hm l (siftup_sub _ _ _ _ h)
  · refine (pr.mono fun a p q tp tq h => hk _ h (solid_tup _) ?_ ?_ ?_).append (.cons htp .nil)
    · exact news_ne N h m5 (Ne.symm list_ne_tup)
    · exact news_ne N h m4 (Ne.symm list_ne_tup)
    · exact news_ne N h m6 (Ne.symm list_ne_tup)
  · intro l h1 h2
    by_cases hc : l = low
    · subst hc
      rw [adr_set_self h1 (by omega)]
      have e9 : (his.set (l - 1) (his.getD (l - 1) 0 + 1)).getD (l - 1) 0 = his.getD (l - 1) 0 + 1 := by
        rw [List.getD_eq_getElem?_getD (l := his.set _ _), List.getElem?_set_self (by omega)]
        rfl
      rw [e9]
      exact ⟨_, _, _, _, hf⟩
    · obtain ⟨s1, s2, s3, e', hm⟩ := it l h1 h2
      rw [adr_set_other hlow.1 hc]
      have e9 : (his.set (low - 1) (his.getD (low - 1) 0 + 1)).getD (l - 1) 0 = his.getD (l - 1) 0 := by
        rw [List.getD_eq_getElem?_getD (l := his.set _ _), List.getElem?_set_ne (by omega), ← List.getD_eq_getElem?_getD]
      rw [e9]
      exact ⟨s1, s2, s3, e', hk _ hm (solid_list _ _) (news_ne N hm m5 (Ne.symm refs_ne_item)) (news_ne N hm m4 (Ne.symm refs_ne_item)) (news_ne N hm m6 (Ne.symm refs_ne_item))⟩
  · exact fun p hp hs => ⟨hk p (kp p hp hs).1 hs (kp p hp hs).2.2.2.2 (kp p hp hs).2.1 (kp p hp hs).2.2.1, (kp p hp hs).2⟩
theorem allLt_mem {d : Nat} {l : Led} (h : AllLt d l) : ∀ p ∈ l, p.1 < d := by
  induction l with
  | nil =>
    intro p hp
    cases hp
  | cons a r ih =>
    intro p hp
    rcases List.mem_cons.mp hp with rfl | hp
    · exact h.1
    · exact ih h.2 p hp

theorem LI.keys {news led led' : Led} {Kw Kh Sx La No W : Addr} {B : Nat} {x : Int} {b : Nat} {las : List Addr} (T : LI news Kw Kh Sx La No W B x b B las led) (hk : ∀ p ∈ led, p ∈ led') : KeyIn led' (keyA (his0 B x b) las) las := by
  intro a ha
  have l1 := T.l1
  obtain ⟨j, hj, rfl⟩ := List.getElem_of_mem ha
  obtain ⟨t1, t2, t3, e, hm⟩ := T.items (j + 1) (by omega) (by omega)
  have e9 := keyA_adr (his := his0 B x b) (by rw [his0_length, l1]) T.nd T.z (j + 1)
  rw [adr_at (by omega) (by omega)] at hm e9
  simp only [Nat.add_sub_cancel] at hm e9
  refine ⟨_, _, hk _ hm, ?_, rfl⟩
  rw [e9, item_in (by omega) (by rw [his0_length]; omega), his0_get (by omega) (by omega)]
  exact item3_ints _ _ _ _ _
theorem NI.start {h₀ h : Heap} {L : Addr} {news led led' : Led} {Kw Kh Sx La He No W : Addr} {B : Nat} {x : Int} {b : Nat} {las : List Addr} {c : Nat} (T : LI news Kw Kh Sx La No W B x b B las led) (N : News h₀ L h led) (hlt : ∀ p ∈ led, p.1 < He) (hk : ∀ p ∈ led, p ∈ led')
    (hH : (He, refs (heapLoop (ltK (keyA (his0 B x b) las)) (las.length / 2) las) c) ∈ led') : NI news Kh Sx La He No B (his0 B x b) las (heapLoop (ltI (his0 B x b)) (B / 2) ((List.range B).map (· + 1))) [] [] led' := by
  obtain ⟨l1, nd, z, ⟨o1, m1, d1⟩, ⟨o2, m2, d2⟩, ⟨vs, e3, m3, i3⟩, ⟨e4, m4⟩, ⟨e5, m5⟩, it, tb, kp, ds⟩ := T
  have e : heapLoop (ltK (keyA (his0 B x b) las)) (las.length / 2) las = (heapLoop (ltI (his0 B x b)) (B / 2) ((List.range B).map (· + 1))).map (adr las) := by
    have e1 := heapLoop_map (adr las) (ltK (keyA (his0 B x b) las)) (las.length / 2) ((List.range las.length).map (· + 1))
    rw [adr_range, ltK_adr (by rw [his0_length, l1]) nd z] at e1
    rw [e1, l1]
  rw [e] at hH
  refine ⟨l1, his0_length _ _ _, nd, z, by rw [heapLoop_length]; simp, fun l hl => ?_, ⟨o2, hk _ m2, d2⟩, ⟨vs, e3, hk _ m3, i3⟩, ⟨e4, hk _ m4⟩, ⟨c, hH⟩, ⟨e5, hk _ m5⟩, .nil, fun l h1 h2 => ?_, tb.sub hk, fun p hp hs => ⟨hk _ (kp p hp hs).1, (kp p hp hs).2.1, (kp p hp hs).2.2.1, (kp p hp hs).2.2.2, ?_⟩, ds.1, ?_, ds.2.2, ?_, Ne.symm ds.2.1, ?_⟩
  · obtain ⟨j, hj, rfl⟩ := List.mem_map.mp (heapLoop_sub _ _ _ _ hl)
    have := List.mem_range.mp hj
    omega
  · obtain ⟨t1, t2, t3, e, hm⟩ := it l h1 h2
    rw [his0_get h1 h2]
    exact ⟨t1, t2, t3, e, hk _ hm⟩
  · exact Nat.ne_of_lt (hlt _ (kp p hp hs).1)
  · exact Nat.ne_of_lt (hlt _ m3)
  · exact Nat.ne_of_lt (hlt _ m4)
  · exact Ne.symm (Nat.ne_of_lt (hlt _ m5))

theorem sub_head {prog : Program} {w : World} {A : Around} {E : Value → Shared → Prop} {s : Shared} {h₀ : Heap} {L D a0 : Addr} {as : List Addr} {led : Led} {n : Nat} {u : Tok} {value slice : PySem.Expr} {Q : Value → Shared → Prop} (N : News h₀ L s.heap led) (hm : (D, refs (a0 :: as) n) ∈ led) (h : Q (.ref a0) s)
    (hs : subscripted slice false (.ref D) (.int 0 u) = operate [.ref D, .int 0 u] (getItem (.ref D) (.int 0 u)) := by with_unfolding_all rfl) (hg : ∀ r, letTemporaryGo value (.ref D) r = pure () := by intro _; with_unfolding_all rfl) :
    wpAny (model prog w) A (subscriptTail value slice (.ref D) (.int 0 u)) Q E s := kim_list (l := (a0 :: as).map Value.ref) N hm rfl rfl (by decide) (by decide) rfl h hs hg

theorem nRun_step {B k : Nat} {his : List Int} {low : Nat} {rest : List Nat} {acc : List (Int × Int)} {r : List Int × List Nat × List (Int × Int)} (h : nRun B (k + 1) his (low :: rest) acc = some r) :
    ¬ low ∈ rest ∧ nRun B k (his.set (low - 1) (his.getD (low - 1) 0 + 1)) (siftup (ltI (his.set (low - 1) (his.getD (low - 1) 0 + 1))) (low :: rest) 0) (acc ++ [(his.getD (low - 1) 0, (low : Int))]) = some r := by
  unfold nRun at h
  by_cases hc : 1 ≤ low ∧ low ≤ B ∧ ¬ low ∈ rest
  · simp only [if_pos hc] at h
    exact ⟨hc.2.2, h⟩
  · simp only [if_neg hc] at h
    cases h

theorem sz_small {n : Nat} (h : Nat.ble n 100 = true) : n ≤ sizeLine := Nat.le_trans (Nat.le_of_ble_eq_true h) (by rw [sizeLine_eq]; decide)
end
section

/-- with the least one, told by 9 -/
def adr9 (las : List Addr) (q : Addr) (l : Nat) : Addr := if l = 9 then q else adr las l
def keyF (his : List Int) (las : List Addr) (q : Addr) (v : Int) (y : Addr) : List Int := if y = q then [v - 1, 0, 0] else keyA his las y
theorem adr9_ne {las : List Addr} {q : Addr} {l : Nat} (h : l ≠ 9) : adr9 las q l = adr las l := by
  unfold adr9
  rw [if_neg h]
theorem adr9_nine {las : List Addr} {q : Addr} : adr9 las q 9 = q := rfl
section
variable {his : List Int} {las : List Addr} {q : Addr} {v : Int}
theorem adr_ne_q (z : 0 ∉ las) (hq : q ∉ las) (hq0 : q ≠ 0) (l : Nat) : adr las l ≠ q := fun e => by
  by_cases h : 1 ≤ l ∧ l ≤ las.length
  · exact hq (e ▸ adr_mem h.1 h.2)
  · rw [adr_out h] at e
    exact hq0 e.symm
theorem keyF_adr9 (hl : his.length = las.length) (nd : las.Nodup) (z : 0 ∉ las) (hq : q ∉ las) (hq0 : q ≠ 0) (l : Nat) : keyF his las q v (adr9 las q l) = itemF his v l := by
  unfold itemF keyF
  by_cases h9 : l = 9
  · subst h9
    rw [adr9_nine, if_pos rfl, if_pos rfl]
  · rw [adr9_ne h9, if_neg h9, if_neg (adr_ne_q z hq hq0 l)]
    exact keyA_adr hl nd z l
theorem ltF_adr9 (hl : his.length = las.length) (nd : las.Nodup) (z : 0 ∉ las) (hq : q ∉ las) (hq0 : q ≠ 0) (a b : Nat) : ltK (keyF his las q v) (adr9 las q a) (adr9 las q b) = ltF his v a b := by
  show ltL _ _ = ltL _ _
  rw [keyF_adr9 hl nd z hq hq0, keyF_adr9 hl nd z hq hq0]
theorem map_adr9 {xs : List Nat} (h : ∀ l ∈ xs, l ≠ 9) : xs.map (adr9 las q) = xs.map (adr las) := List.map_congr_left fun l hl => adr9_ne (h l hl)
theorem heap_last {low : Nat} {rest : List Nat} (hl : his.length = las.length) (nd : las.Nodup) (z : 0 ∉ las) (hq : q ∉ las) (hq0 : q ≠ 0) (hm : ∀ l ∈ rest, l ≠ 9) :
    siftup (ltK (keyF his las q v)) (((low :: rest).map (adr las)).set 0 q) 0 = (siftup (ltF his v) (9 :: rest) 0).map (adr9 las q) := by
  have e1 : ((low :: rest).map (adr las)).set 0 q = (9 :: rest).map (adr9 las q) := by
    show q :: rest.map (adr las) = adr9 las q 9 :: rest.map (adr9 las q)
    rw [map_adr9 hm, adr9_nine]
  rw [e1, siftup_map]
  congr 2
  funext a b
  exact ltF_adr9 hl nd z hq hq0 a b
end
theorem nFinal_parts {B : Nat} {his : List Int} {low : Nat} {rest : List Nat} (h : nFinal B his (low :: rest) = true) :
    low ∉ rest ∧ (∃ t, siftup (ltF his (his.getD (low - 1) 0 * ((840 / low : Nat) : Int))) (9 :: rest) 0 = 9 :: t) ∧
      ∃ bs, sortL (ltF his (his.getD (low - 1) 0 * ((840 / low : Nat) : Int))) (siftup (ltF his (his.getD (low - 1) 0 * ((840 / low : Nat) : Int))) (9 :: rest) 0) = some bs ∧
        sortL (ltF his (his.getD (low - 1) 0 * ((840 / low : Nat) : Int))) (((List.range B).map (· + 1)).filter (fun l => l != low) ++ [9]) = some bs := by
  unfold nFinal at h
  rw [Bool.and_eq_true, Bool.and_eq_true] at h
  obtain ⟨⟨h1, h2⟩, h3⟩ := h
  have h1' := of_decide_eq_true h1
  refine ⟨h1'.2.2, ?_, ?_⟩
  · generalize siftup (ltF his (his.getD (low - 1) 0 * ((840 / low : Nat) : Int))) (9 :: rest) 0 = xs at *
    cases xs with
    | nil => cases h2
    | cons a r =>
      have := eq_of_beq h2
      injection this with e
      exact ⟨r, by rw [e]⟩
  · split at h3
    · rename_i a b ha hb
      exact ⟨a, ha, by rw [hb, eq_of_beq h3]⟩
    · cases h3

theorem kasRun_congr {α : Type} {n : Nat} {lt lt' : Nat → Nat → Bool} (h : ∀ i j, i < n → j < n → lt i j = lt' i j) : ∀ t : KasT α, kasRun n lt t = kasRun n lt' t
  | .ret a => rfl
  | .ask i j k => by
    unfold kasRun
    by_cases hij : i < n ∧ j < n
    · rw [if_pos hij, if_pos hij, h i j hij.1 hij.2]
      exact kasRun_congr h (k (lt' i j))
    · rw [if_neg hij, if_neg hij]
theorem sortP_map {lt : Nat → Nat → Bool} {key : Addr → List Int} {f : Nat → Addr} (h : ∀ a b, ltK key (f a) (f b) = lt a b) (as : List Nat) : sortP (ltK key) 0 (as.map f) = sortP lt 0 as := by
  unfold sortP
  rw [List.length_map]
  congr 1
  refine kasRun_congr (fun i j hi hj => ?_) _
  rw [List.getD_eq_getElem?_getD, List.getD_eq_getElem?_getD, List.getD_eq_getElem?_getD, List.getD_eq_getElem?_getD, List.getElem?_map, List.getElem?_map, List.getElem?_eq_getElem hi, List.getElem?_eq_getElem hj]
  exact h _ _

section
variable {prog : Program} {w : World} {A : Around} {E : Value → Shared → Prop} {s : Shared} {h₀ : Heap} {L l : Addr} {m : Str → Option Value} {led : Led} {n : Nat} {Q : Value → Shared → Prop}
/-- sorted of a list of lists of three ints, as the pure run tells -/
theorem sorted_refs {as bs : List Nat} {f : Nat → Addr} {lt : Nat → Nat → Bool} {key : Addr → List Int} (Fx : Fr h₀ L s.heap m) (N : News h₀ L s.heap led) (hm : (l, refs (as.map f) n) ∈ led) (hkey : KeyIn led key (as.map f)) (hlt : ∀ a b, ltK key (f a) (f b) = lt a b)
    (hne : 0 < as.length) (h64 : as.length < 64) (hu : A.in1.in1.units < cLine) (hs : sortL lt as = some bs)
    (h : ∀ D c h', Fr h₀ L h' m → News h₀ L h' ((D, refs (bs.map f) c) :: led) → (∀ q ∈ led, q.1 < D) → Q (.ref D) { s with heap := h' }) :
    wpAny (model prog w) A (call (.builtin "sorted") [.ref l]) Q E s := by
  unfold sortL at hs
  by_cases h2 : as.length < 2
  · rw [if_pos h2] at hs
    injection hs with hs
    subst hs
    obtain ⟨a, rfl⟩ : ∃ a, as = [a] := List.length_eq_one_iff.mp (by omega)
    exact my_sorted1 Fx N hm h
  · rw [if_neg h2] at hs
    split at hs
    · rename_i is hsp
      by_cases hall : is.all (fun i => decide (i < as.length)) = true
      · rw [if_pos hall] at hs
        injection hs with hs
        have hin : ∀ i ∈ is, i < as.length := fun i hi => of_decide_eq_true (List.all_eq_true.mp hall i hi)
        refine my_sorted Fx N hm hkey (by rw [List.length_map]; omega) (by rw [List.length_map]; exact h64) hu ((sortP_map hlt as).trans hsp) (fun i hi => by rw [List.length_map]; exact hin i hi) fun D c h' F' N' l' => ?_
        have e : (is.map fun i => (as.map f).getD i 0) = bs.map f := by
          rw [← hs, List.map_map]
          refine List.map_congr_left fun i hi => ?_
          rw [List.getD_eq_getElem?_getD, List.getElem?_map, List.getElem?_eq_getElem (hin i hi)]
          simp only [Function.comp, Option.map_some, Option.getD_some, List.getD_eq_getElem?_getD, List.getElem?_eq_getElem (hin i hi)]
        rw [e] at N'
        exact h D c h' F' N' l'
      · rw [if_neg hall] at hs
        cases hs
    · cases hs
theorem eq_refs {a b : Addr} {xs : List Addr} {n1 n2 : Nat} (N : News h₀ L s.heap led) (ha : (a, refs xs n1) ∈ led) (hb : (b, refs xs n2) ∈ led) (hu : A.units < cLine) (h : Q (.bool true) s) : wpAny (model prog w) A (compareOp .Eq (.ref a) (.ref b)) Q E s := by
  refine SeqAt.eq_listAt (e := fun _ => true) (items := (xs.map Value.ref).toArray) (items2 := (xs.map Value.ref).toArray) ⟨_, (N _ ha).1, rfl, n1, rfl⟩ ⟨_, (N _ hb).1, rfl, n2, rfl⟩ rfl hu (fun j h1 h2 => SeqAt.EqAt.same _) ?_
  have e : ((List.range (xs.map Value.ref).toArray.size).all fun _ => true) = true := by simp
  rw [e]
  exact h
end

theorem laid_rest {las : List Addr} {q : Addr} {low : Nat} (nd : las.Nodup) (h8 : las.length ≤ 8) (h1 : 1 ≤ low) (h2 : low ≤ las.length) :
    las.filter (fun y => y != adr las low) ++ [q] = (((List.range las.length).map (· + 1)).filter (fun l => l != low) ++ [9]).map (adr9 las q) := by
  rw [List.map_append, List.map_singleton, adr9_nine]
  congr 1
  have e1 : las.filter (fun y => y != adr las low) = (((List.range las.length).map (· + 1)).filter ((fun y => y != adr las low) ∘ adr las)).map (adr las) := by
    rw [← List.filter_map, adr_range]
  have e2 : ((List.range las.length).map (· + 1)).filter ((fun y => y != adr las low) ∘ adr las) = ((List.range las.length).map (· + 1)).filter (fun l => l != low) := by
    refine List.filter_congr fun l hl => ?_
    obtain ⟨j, hj, rfl⟩ := List.mem_map.mp hl
    have hj' := List.mem_range.mp hj
    show (adr las (j + 1) != adr las low) = (j + 1 != low)
    by_cases e : j + 1 = low
    · subst e
      simp only [bne_self_eq_false]
    · have : adr las (j + 1) ≠ adr las low := fun e9 => e (adr_inj nd (by omega) (by omega) h1 h2 e9)
      rw [bne_iff_ne.mpr this, bne_iff_ne.mpr e]
  rw [e1, e2]
  refine (map_adr9 fun l hl => ?_).symm
  obtain ⟨j, hj, rfl⟩ := List.mem_map.mp (List.mem_filter.mp hl).1
  have hj' := List.mem_range.mp hj
  omega

/-- the keys of the last turn -/
theorem keysF {his : List Int} {las : List Addr} {q : Addr} {v : Int} {B : Nat} {led : Led} {vs : List Value} {e : Nat} (l1 : las.length = B) (l2 : his.length = B) (nd : las.Nodup) (z : 0 ∉ las) (hq : q ∉ las) (hq0 : q ≠ 0)
    (hi : ∀ l, 1 ≤ l → l ≤ B → ∃ t1 t2 t3 e, (adr las l, item3 (his.getD (l - 1) 0) l t1 t2 t3 e) ∈ led) (hm : (q, listOf vs.toArray e) ∈ led) (hv : IntsAre vs [v - 1, 0, 0]) {xs : List Nat} (hx : ∀ l ∈ xs, l = 9 ∨ (1 ≤ l ∧ l ≤ B)) :
    KeyIn led (keyF his las q v) (xs.map (adr9 las q)) := by
  intro a ha
  obtain ⟨l, hl, rfl⟩ := List.mem_map.mp ha
  rw [keyF_adr9 (by omega) nd z hq hq0]
  by_cases h9 : l = 9
  · subst h9
    exact ⟨vs, e, hm, hv, hv.length⟩
  · have hl2 := (hx l hl).resolve_left h9
    obtain ⟨t1, t2, t3, e', hm'⟩ := hi l hl2.1 hl2.2
    rw [adr9_ne h9]
    refine ⟨_, _, hm', ?_, rfl⟩
    unfold itemF
    rw [if_neg h9, item_in hl2.1 (by omega)]
    exact item3_ints _ _ _ _ _
theorem siftup_sub9 {B : Nat} {his : List Int} {v : Int} {rest : List Nat} (hr : ∀ l ∈ rest, 1 ≤ l ∧ l ≤ B) : ∀ l ∈ siftup (ltF his v) (9 :: rest) 0, l = 9 ∨ (1 ≤ l ∧ l ≤ B) := fun l hl => by
  rcases List.mem_cons.mp (siftup_sub _ _ _ _ hl) with h | h
  · exact .inl h
  · exact .inr (hr l h)

theorem take_filter_ne {las : List Addr} {i : Nat} {g : Addr} (hi : i < las.length) : (las.take (i + 1)).filter (fun y => y != g) = (las.take i).filter (fun y => y != g) ++ (if las[i] = g then [] else [las[i]]) := by
  rw [List.take_add_one, List.getElem?_eq_getElem hi, Option.toList_some, List.filter_append]
  congr 1
  by_cases h : las[i] = g
  · rw [if_pos h]
    simp [h]
  · rw [if_neg h]
    simp [h]
theorem my_add_lists {prog : Program} {w : World} {A : Around} {E : Value → Shared → Prop} {s : Shared} {h₀ : Heap} {L l b : Addr} {m : Str → Option Value} {led : Led} {n n2 : Nat} {as bs : List Addr} {Q : Value → Shared → Prop} (F : Fr h₀ L s.heap m) (N : News h₀ L s.heap led) (hl : (l, refs as n) ∈ led) (hb : (b, refs bs n2) ∈ led)
    (hz : as.length + bs.length ≤ 100)
    (h : ∀ S h', Fr h₀ L h' m → News h₀ L h' ((S, refs (as ++ bs) 0) :: led) → Q (.ref S) { s with heap := h' }) :
    wpAny (model prog w) A (binaryOp .Add (.ref l) (.ref b)) Q E s := by
  refine add_lists (vs := as.map Value.ref) (ws := bs.map Value.ref) F N ⟨_, (N _ hl).1, rfl, n, rfl⟩ ⟨_, (N _ hb).1, rfl, n2, rfl⟩ (fun h' F' N' => h _ h' F' ?_) ?_
  · rw [← List.map_append] at N'
    exact N'
  · rw [List.length_map, List.length_map, sizeLine_eq]
    omega
end
section

set_option maxHeartbeats 0 in
theorem noted_spec (w : World) (B b : Nat) (x : Int) (n : Nat) (W : Addr) (t1 t2 t3 t4 : Tok) (hB1 : 1 ≤ B) (hB : B ≤ 8) (hb : 1 ≤ b) (hb2 : b ≤ B) (hx1 : -(2 ^ 20) < x) (hx2 : x < 2 ^ 20) (hn : n < 1000)
    (his : List Int) (hs : List Nat) (acc : List (Int × Int)) (hrun : nRun B n (his0 B x b) (heapLoop (ltI (his0 B x b)) (B / 2) ((List.range B).map (· + 1))) [] = some (his, hs, acc)) (hfin : nFinal B his hs = true) :
    Spec w 94 200 2200 [.int B t1, .int x t2, .int b t3, .int n t4, .ref W] Tabs (fun news r news' => ∃ Lt as e, r = .ref Lt ∧ (Lt, refs as e) ∈ news' ∧ PairsAre news' as acc ∧ Kept news news') := by
  unfold Spec
  k_fill
  intro p loose mean mg mb dp un gd cn cs a ccd cl outer A₀ base h₀ L m news s Q E B₀ F X N T hk hd hu hpre hret
  refine wpAny_call ?_
  k_dflt (refine' code_defC ?k1 ?k2 ?k3 ?k4 ?k5 ?kA ?kF ?kK ?k6 ?k7 ?k8 ?k9 ?kB ?kD ?_ ?c2 ?c3 ?c4; (case kA => exact rfl); (case kF => exact rfl); (case kK => assumption); (case k1 => k_asm); (case k2 => k_asm); (case k3 => k_asm); (case k4 => k_asm); (case k5 => k_asm); (case k6 => k_is); (case k7 => k_is); (case k8 => ktr_room); (case k9 => exact BindsTo.of_eq rfl); (case kB => exact rfl); (case kD => decide +kernel); (case c2 => exact rfl); (case c3 => exact rfl); (case c4 => exact rfl); k_whole)
  intro g' L' h' tk' cells' FG' F' N' Y' B' X' T' l1
  k_cells Y'
  simp only [List.cons_append, List.nil_append] at N'
  (try k_fold)
  repeat' (first | (k_unfold; (try dsimp only); repeat (first | clear ek | clear qk)) | ((fail_if_success (with_reducible show wpAny _ _ (exec (Stmt.While _ _ _ _) _) _ _ _)); (fail_if_success (with_reducible show wpAny _ _ (exec (Stmt.For _ _ _ _ _) _) _ _ _)); (fail_if_success (with_reducible show wpAny _ _ (eval (Expr.ListComp _ _ _ _) _) _ _ _)); (fail_if_success (with_reducible show wpAny _ _ (exec (Stmt.Assign _ (Expr.ListComp _ _ _ _) _) _) _ _ _)); (fail_if_success (with_reducible show wpAny _ _ (pyIter _) _ _ _)); (fail_if_success (with_reducible show wpAny _ _ (call (Value.ref _) _) _ _ _)); (fail_if_success (with_reducible show wpAny _ _ (setItem _ _ _) _ _ _)); (fail_if_success (with_reducible show wpAny _ _ (call (Value.builtin "list.append") _) _ _ _)); (fail_if_success (with_reducible show wpAny _ _ (call (Value.builtin "sorted") _) _ _ _)); (fail_if_success (with_reducible show wpAny _ _ (call (Value.type "list") _) _ _ _)); (fail_if_success (with_reducible show wpAny _ _ (compareOp _ (Value.ref _) (Value.ref _)) _ _ _)); (fail_if_success (with_reducible show wpAny _ _ (binaryOp _ (Value.ref _) (Value.ref _)) _ _ _)); first | ((first | (with_reducible show wpAny _ _ (exec _ _) _ _ _) | ((with_reducible show wpAny _ _ (eval _ _) _ _ _); (fail_if_success (with_reducible show wpAny _ _ (eval (PySem.Expr.Name _ _) _) _ _ _)); (fail_if_success (with_reducible show wpAny _ _ (eval (PySem.Expr.Constant _ _ _) _) _ _ _)); skip)); k_fold) | (with_reducible (show wpAny _ _ (binaryOp Operator.Add (Value.int _ _) (Value.int _ _)) _ _ _; k_here; (refine my_add ?_); intro _ _ _)) | (with_reducible (show wpAny _ _ (binaryOp Operator.Mult (Value.int _ _) (Value.int _ _)) _ _ _; k_here; (refine my_mul (by first | (left; decide) | (right; decide) | (left; assumption) | (right; assumption) | omega) ?_); intro _ _ _)) | (with_reducible (show wpAny _ _ (binaryOp Operator.Sub (Value.int _ _) (Value.int _ _)) _ _ _; k_here; (refine my_sub ?_); intro _ _ _)) | (with_reducible (show wpAny _ _ (call (Value.builtin "len") [Value.ref _]) _ _ _; k_here; k_dflt (refine' len_refs ?ok1 ?ok2 ?ok3 ?_; (case ok1 => k_asm); (case ok2 => k_mem); (case ok3 => first | assumption | omega); k_whole); intro _ _)) | (with_reducible (show wpAny _ _ (call (Value.type "range") _) _ _ _; k_here; k_dflt (first | (refine' my_range1 ?ok1 ?ok2 ?_; (case ok1 => k_asm); (case ok2 => k_asm); k_whole; intro _ _ _ _ _ _ _ _) | (refine' my_range2 ?ok1 ?ok2 ?_; (case ok1 => k_asm); (case ok2 => k_asm); k_whole; intro _ _ _ _ _ _ _)); (try k_sweep))) | (with_reducible (show wpAny _ _ (callWith _ (Value.ref _) _ _ _) _ _ _; k_here; k_dflt (first | (refine' callWith_K ?ok1 ?ok2 ?_; (case ok1 => k_asm); (case ok2 => k_is); k_whole) | (refine' callWith_K0 ?ok1 ?ok2 ?_; (case ok1 => k_in); (case ok2 => k_is); k_whole)))) | (with_reducible (show wpAny _ _ (eval (PySem.Expr.Name _ _) (compEnvC _ _ _ _)) _ _ _; k_here; k_dflt (first | (refine' ce_local ?oN ?om ?on ?ov ?_ ?oa ?ob; (case oa => rfl); (case ob => rfl); (case on => assumption); (case oN => k_asm); (case om => k_mem); (case ov => assumption); k_whole) | (refine' ce_cell ?oN ?oc ?om ?od ?_ ?oa ?ob; (case oa => rfl); (case ob => rfl); (case oN => k_asm); (case oc => rfl); (case om => k_mem); (case od => k_asm); k_whole) | (refine' ce_K ?oF ?oX ?oT ?oe ?_ ?og ?oa ?ob; (case og => rfl); (case oa => rfl); (case ob => rfl); (case oF => k_asm); (case oX => k_asm); (case oT => k_asm); (case oe => k_is); k_whole) | (refine' ce_B ?oF ?oX ?oT ?oe ?ov ?on ?_ ?og ?ogb ?oa ?ob; (case og => rfl); (case ogb => rfl); (case oa => rfl); (case ob => rfl); (case oF => k_asm); (case oX => k_asm); (case oT => k_asm); (case oe => k_is); (case ov => boot_fast); (case on => decide); k_whole)))) | (with_reducible (show wpAny _ _ (eval (PySem.Expr.Name _ _) _) _ _ _; k_here; k_dflt (first | (refine' nameX_F ?oN ?oc ?om ?od ?_ ?oa ?ob; (case oa => rfl); (case ob => rfl); (case oN => k_asm); (case oc => rfl); (case om => k_mem); (case od => k_asm); k_whole) | (refine' nameX_C ?oN ?oc ?om ?od ?_ ?oa ?ob; (case oa => rfl); (case ob => rfl); (case oN => k_asm); (case oc => rfl); (case om => k_mem); (case od => k_asm); k_whole)))) | (with_reducible (show wpAny _ _ (newList _) _ _ _; k_here; k_dflt (refine' newList_K ?ok1 ?ok2 ?_ ?ok3; (case ok1 => k_asm); (case ok2 => k_asm); (case ok3 => exact sz_small rfl); k_whole); intro _ _ _ _ lz; (try k_lt lz); (try (revert lz; intro _)); (try k_sweep))) | (with_reducible (show wpAny _ _ (newTuple _) _ _ _; k_here; k_dflt (refine' kup_newTuple ?oF ?oN ?_ ?oz; (case oF => k_asm); (case oN => k_asm); (case oz => exact sz_small rfl); k_whole); intro _ _ _ _ lz; (try k_lt lz); (try (revert lz; intro _)); (try k_sweep))) | (with_reducible (show wpAny _ _ (subscriptTail _ _ (Value.ref _) (Value.int 0 _)) _ _ _; k_here; k_dflt (refine' sub_head ?ok1 ?ok2 ?_ ?ok7 ?ok8; (case ok1 => k_asm); (case ok2 => k_mem); (case ok7 => with_unfolding_all rfl); (case ok8 => (intro _; with_unfolding_all rfl)); k_whole))) | (with_reducible (show wpAny _ _ (subscriptTail _ _ (Value.ref _) (Value.int _ _)) _ _ _; k_here; k_dflt (refine' sub_ints ?ok1 ?ok2 ?ok3 ?ok4 ?ok5 ?ok6 ?_ ?ok7 ?ok8; (case ok1 => k_asm); (case ok2 => k_mem); (case ok3 => assumption); (case ok4 => first | exact le_pred (by assumption) (by assumption) | omega); (case ok5 => first | (simp only [stepsP_length]; first | exact lt_pred (by assumption) (by assumption) (by assumption) | omega) | (simp only [List.length_cons, List.length_nil]; omega)); (case ok6 => first | (simp only [stepsP_length]; first | assumption | omega) | (simp only [List.length_cons, List.length_nil]; omega)); (case ok7 => with_unfolding_all rfl); (case ok8 => (intro _; with_unfolding_all rfl)); k_whole); intro _ _ _)) | (with_reducible (show wpAny _ _ (subscriptTail _ _ (Value.ref _) (Value.int _ _)) _ _ _; k_here; k_dflt (refine' sub_refs ?ok1 ?ok2 ?ok3 ?ok4 ?ok5 ?_ ?ok6 ?ok7; (case ok1 => k_asm); (case ok2 => k_mem); (case ok3 => first | assumption | exact le_pred (by assumption) (by assumption) | omega); (case ok4 => first | assumption | exact lt_pred (by assumption) (by assumption) (by assumption) | omega); (case ok5 => first | assumption | omega); (case ok6 => with_unfolding_all rfl); (case ok7 => (intro _; with_unfolding_all rfl)); k_whole); intro _ ha'; (try simp only [Int.toNat_natCast] at ha'); revert ha'; intro _)) | walk1 | (dsimp only; walk1)))
  k_dflt (refine' comp_assign ?w ?c ?k ?n ?_; (case w => rfl); (case c => rfl); (case k => rfl); (case n => decide))
  repeat' (first | (k_unfold; (try dsimp only); repeat (first | clear ek | clear qk)) | ((fail_if_success (with_reducible show wpAny _ _ (exec (Stmt.While _ _ _ _) _) _ _ _)); (fail_if_success (with_reducible show wpAny _ _ (exec (Stmt.For _ _ _ _ _) _) _ _ _)); (fail_if_success (with_reducible show wpAny _ _ (eval (Expr.ListComp _ _ _ _) _) _ _ _)); (fail_if_success (with_reducible show wpAny _ _ (exec (Stmt.Assign _ (Expr.ListComp _ _ _ _) _) _) _ _ _)); (fail_if_success (with_reducible show wpAny _ _ (pyIter _) _ _ _)); (fail_if_success (with_reducible show wpAny _ _ (call (Value.ref _) _) _ _ _)); (fail_if_success (with_reducible show wpAny _ _ (setItem _ _ _) _ _ _)); (fail_if_success (with_reducible show wpAny _ _ (call (Value.builtin "list.append") _) _ _ _)); (fail_if_success (with_reducible show wpAny _ _ (call (Value.builtin "sorted") _) _ _ _)); (fail_if_success (with_reducible show wpAny _ _ (call (Value.type "list") _) _ _ _)); (fail_if_success (with_reducible show wpAny _ _ (compareOp _ (Value.ref _) (Value.ref _)) _ _ _)); (fail_if_success (with_reducible show wpAny _ _ (binaryOp _ (Value.ref _) (Value.ref _)) _ _ _)); first | ((first | (with_reducible show wpAny _ _ (exec _ _) _ _ _) | ((with_reducible show wpAny _ _ (eval _ _) _ _ _); (fail_if_success (with_reducible show wpAny _ _ (eval (PySem.Expr.Name _ _) _) _ _ _)); (fail_if_success (with_reducible show wpAny _ _ (eval (PySem.Expr.Constant _ _ _) _) _ _ _)); skip)); k_fold) | (with_reducible (show wpAny _ _ (binaryOp Operator.Add (Value.int _ _) (Value.int _ _)) _ _ _; k_here; (refine my_add ?_); intro _ _ _)) | (with_reducible (show wpAny _ _ (binaryOp Operator.Mult (Value.int _ _) (Value.int _ _)) _ _ _; k_here; (refine my_mul (by first | (left; decide) | (right; decide) | (left; assumption) | (right; assumption) | omega) ?_); intro _ _ _)) | (with_reducible (show wpAny _ _ (binaryOp Operator.Sub (Value.int _ _) (Value.int _ _)) _ _ _; k_here; (refine my_sub ?_); intro _ _ _)) | (with_reducible (show wpAny _ _ (call (Value.builtin "len") [Value.ref _]) _ _ _; k_here; k_dflt (refine' len_refs ?ok1 ?ok2 ?ok3 ?_; (case ok1 => k_asm); (case ok2 => k_mem); (case ok3 => first | assumption | omega); k_whole); intro _ _)) | (with_reducible (show wpAny _ _ (call (Value.type "range") _) _ _ _; k_here; k_dflt (first | (refine' my_range1 ?ok1 ?ok2 ?_; (case ok1 => k_asm); (case ok2 => k_asm); k_whole; intro _ _ _ _ _ _ _ _) | (refine' my_range2 ?ok1 ?ok2 ?_; (case ok1 => k_asm); (case ok2 => k_asm); k_whole; intro _ _ _ _ _ _ _)); (try k_sweep))) | (with_reducible (show wpAny _ _ (callWith _ (Value.ref _) _ _ _) _ _ _; k_here; k_dflt (first | (refine' callWith_K ?ok1 ?ok2 ?_; (case ok1 => k_asm); (case ok2 => k_is); k_whole) | (refine' callWith_K0 ?ok1 ?ok2 ?_; (case ok1 => k_in); (case ok2 => k_is); k_whole)))) | (with_reducible (show wpAny _ _ (eval (PySem.Expr.Name _ _) (compEnvC _ _ _ _)) _ _ _; k_here; k_dflt (first | (refine' ce_local ?oN ?om ?on ?ov ?_ ?oa ?ob; (case oa => rfl); (case ob => rfl); (case on => assumption); (case oN => k_asm); (case om => k_mem); (case ov => assumption); k_whole) | (refine' ce_cell ?oN ?oc ?om ?od ?_ ?oa ?ob; (case oa => rfl); (case ob => rfl); (case oN => k_asm); (case oc => rfl); (case om => k_mem); (case od => k_asm); k_whole) | (refine' ce_K ?oF ?oX ?oT ?oe ?_ ?og ?oa ?ob; (case og => rfl); (case oa => rfl); (case ob => rfl); (case oF => k_asm); (case oX => k_asm); (case oT => k_asm); (case oe => k_is); k_whole) | (refine' ce_B ?oF ?oX ?oT ?oe ?ov ?on ?_ ?og ?ogb ?oa ?ob; (case og => rfl); (case ogb => rfl); (case oa => rfl); (case ob => rfl); (case oF => k_asm); (case oX => k_asm); (case oT => k_asm); (case oe => k_is); (case ov => boot_fast); (case on => decide); k_whole)))) | (with_reducible (show wpAny _ _ (eval (PySem.Expr.Name _ _) _) _ _ _; k_here; k_dflt (first | (refine' nameX_F ?oN ?oc ?om ?od ?_ ?oa ?ob; (case oa => rfl); (case ob => rfl); (case oN => k_asm); (case oc => rfl); (case om => k_mem); (case od => k_asm); k_whole) | (refine' nameX_C ?oN ?oc ?om ?od ?_ ?oa ?ob; (case oa => rfl); (case ob => rfl); (case oN => k_asm); (case oc => rfl); (case om => k_mem); (case od => k_asm); k_whole)))) | (with_reducible (show wpAny _ _ (newList _) _ _ _; k_here; k_dflt (refine' newList_K ?ok1 ?ok2 ?_ ?ok3; (case ok1 => k_asm); (case ok2 => k_asm); (case ok3 => exact sz_small rfl); k_whole); intro _ _ _ _ lz; (try k_lt lz); (try (revert lz; intro _)); (try k_sweep))) | (with_reducible (show wpAny _ _ (newTuple _) _ _ _; k_here; k_dflt (refine' kup_newTuple ?oF ?oN ?_ ?oz; (case oF => k_asm); (case oN => k_asm); (case oz => exact sz_small rfl); k_whole); intro _ _ _ _ lz; (try k_lt lz); (try (revert lz; intro _)); (try k_sweep))) | (with_reducible (show wpAny _ _ (subscriptTail _ _ (Value.ref _) (Value.int 0 _)) _ _ _; k_here; k_dflt (refine' sub_head ?ok1 ?ok2 ?_ ?ok7 ?ok8; (case ok1 => k_asm); (case ok2 => k_mem); (case ok7 => with_unfolding_all rfl); (case ok8 => (intro _; with_unfolding_all rfl)); k_whole))) | (with_reducible (show wpAny _ _ (subscriptTail _ _ (Value.ref _) (Value.int _ _)) _ _ _; k_here; k_dflt (refine' sub_ints ?ok1 ?ok2 ?ok3 ?ok4 ?ok5 ?ok6 ?_ ?ok7 ?ok8; (case ok1 => k_asm); (case ok2 => k_mem); (case ok3 => assumption); (case ok4 => first | exact le_pred (by assumption) (by assumption) | omega); (case ok5 => first | (simp only [stepsP_length]; first | exact lt_pred (by assumption) (by assumption) (by assumption) | omega) | (simp only [List.length_cons, List.length_nil]; omega)); (case ok6 => first | (simp only [stepsP_length]; first | assumption | omega) | (simp only [List.length_cons, List.length_nil]; omega)); (case ok7 => with_unfolding_all rfl); (case ok8 => (intro _; with_unfolding_all rfl)); k_whole); intro _ _ _)) | (with_reducible (show wpAny _ _ (subscriptTail _ _ (Value.ref _) (Value.int _ _)) _ _ _; k_here; k_dflt (refine' sub_refs ?ok1 ?ok2 ?ok3 ?ok4 ?ok5 ?_ ?ok6 ?ok7; (case ok1 => k_asm); (case ok2 => k_mem); (case ok3 => first | assumption | exact le_pred (by assumption) (by assumption) | omega); (case ok4 => first | assumption | exact lt_pred (by assumption) (by assumption) (by assumption) | omega); (case ok5 => first | assumption | omega); (case ok6 => with_unfolding_all rfl); (case ok7 => (intro _; with_unfolding_all rfl)); k_whole); intro _ ha'; (try simp only [Int.toNat_natCast] at ha'); revert ha'; intro _)) | walk1 | (dsimp only; walk1)))
  rename_i o2 o1 d2 d1 _ _ _ _ _ _ _ _ _ _
  replace d1 : o1.data = .cell (some (.ref W)) := d1
  replace d2 : o2.data = .cell none := d2
  rename _ = _ + _ => hv
  rw [cast_succ B] at hv
  subst hv
  k_dflt (refine' comp_range (fun i its led => IntsAre its (stepsP i) ∧ Tabs led ∧ ∀ p ∈ (L' + 1 + 1, o2) :: (L' + 1, o1) :: news, Solid p.2 → p ∈ led) rfl ?hr ?p1 ?p2 ?p3 ?p4 ?p5 rfl rfl ?F ?N ?i0 ?turn ?done; (case F => k_asm); (case N => k_asm))
  case hr => k_mem
  case p1 => omega
  case p2 => omega
  case p3 => omega
  case p4 => omega
  case p5 => decide
  case i0 => exact ⟨.nil, hpre.sub fun q hq => by k_mem, fun p hp _ => List.mem_cons_of_mem _ hp⟩
  case turn =>
    rintro I i v its led h tk C oC D9 e o mC E' hin ⟨tv, rfl⟩ ⟨hi, ht, hkp⟩ hl F3 N3 nC hmx sep c1 c2 c3 hso
    have hw1 := hkp (L' + 1, o1) (by k_mem) (solid_cell d1)
    refine wpAny_tests_nil ?_
    rw [if_pos rfl]
    repeat' (first | (k_unfold; (try dsimp only); repeat (first | clear ek | clear qk)) | ((fail_if_success (with_reducible show wpAny _ _ (exec (Stmt.While _ _ _ _) _) _ _ _)); (fail_if_success (with_reducible show wpAny _ _ (exec (Stmt.For _ _ _ _ _) _) _ _ _)); (fail_if_success (with_reducible show wpAny _ _ (eval (Expr.ListComp _ _ _ _) _) _ _ _)); (fail_if_success (with_reducible show wpAny _ _ (exec (Stmt.Assign _ (Expr.ListComp _ _ _ _) _) _) _ _ _)); (fail_if_success (with_reducible show wpAny _ _ (pyIter _) _ _ _)); (fail_if_success (with_reducible show wpAny _ _ (call (Value.ref _) _) _ _ _)); (fail_if_success (with_reducible show wpAny _ _ (setItem _ _ _) _ _ _)); (fail_if_success (with_reducible show wpAny _ _ (call (Value.builtin "list.append") _) _ _ _)); (fail_if_success (with_reducible show wpAny _ _ (call (Value.builtin "sorted") _) _ _ _)); (fail_if_success (with_reducible show wpAny _ _ (call (Value.type "list") _) _ _ _)); (fail_if_success (with_reducible show wpAny _ _ (compareOp _ (Value.ref _) (Value.ref _)) _ _ _)); (fail_if_success (with_reducible show wpAny _ _ (binaryOp _ (Value.ref _) (Value.ref _)) _ _ _)); first | ((first | (with_reducible show wpAny _ _ (exec _ _) _ _ _) | ((with_reducible show wpAny _ _ (eval _ _) _ _ _); (fail_if_success (with_reducible show wpAny _ _ (eval (PySem.Expr.Name _ _) _) _ _ _)); (fail_if_success (with_reducible show wpAny _ _ (eval (PySem.Expr.Constant _ _ _) _) _ _ _)); skip)); k_fold) | (with_reducible (show wpAny _ _ (binaryOp Operator.Add (Value.int _ _) (Value.int _ _)) _ _ _; k_here; (refine my_add ?_); intro _ _ _)) | (with_reducible (show wpAny _ _ (binaryOp Operator.Mult (Value.int _ _) (Value.int _ _)) _ _ _; k_here; (refine my_mul (by first | (left; decide) | (right; decide) | (left; assumption) | (right; assumption) | omega) ?_); intro _ _ _)) | (with_reducible (show wpAny _ _ (binaryOp Operator.Sub (Value.int _ _) (Value.int _ _)) _ _ _; k_here; (refine my_sub ?_); intro _ _ _)) | (with_reducible (show wpAny _ _ (call (Value.builtin "len") [Value.ref _]) _ _ _; k_here; k_dflt (refine' len_refs ?ok1 ?ok2 ?ok3 ?_; (case ok1 => k_asm); (case ok2 => k_mem); (case ok3 => first | assumption | omega); k_whole); intro _ _)) | (with_reducible (show wpAny _ _ (call (Value.type "range") _) _ _ _; k_here; k_dflt (first | (refine' my_range1 ?ok1 ?ok2 ?_; (case ok1 => k_asm); (case ok2 => k_asm); k_whole; intro _ _ _ _ _ _ _ _) | (refine' my_range2 ?ok1 ?ok2 ?_; (case ok1 => k_asm); (case ok2 => k_asm); k_whole; intro _ _ _ _ _ _ _)); (try k_sweep))) | (with_reducible (show wpAny _ _ (callWith _ (Value.ref _) _ _ _) _ _ _; k_here; k_dflt (first | (refine' callWith_K ?ok1 ?ok2 ?_; (case ok1 => k_asm); (case ok2 => k_is); k_whole) | (refine' callWith_K0 ?ok1 ?ok2 ?_; (case ok1 => k_in); (case ok2 => k_is); k_whole)))) | (with_reducible (show wpAny _ _ (eval (PySem.Expr.Name _ _) (compEnvC _ _ _ _)) _ _ _; k_here; k_dflt (first | (refine' ce_local ?oN ?om ?on ?ov ?_ ?oa ?ob; (case oa => rfl); (case ob => rfl); (case on => assumption); (case oN => k_asm); (case om => k_mem); (case ov => assumption); k_whole) | (refine' ce_cell ?oN ?oc ?om ?od ?_ ?oa ?ob; (case oa => rfl); (case ob => rfl); (case oN => k_asm); (case oc => rfl); (case om => k_mem); (case od => k_asm); k_whole) | (refine' ce_K ?oF ?oX ?oT ?oe ?_ ?og ?oa ?ob; (case og => rfl); (case oa => rfl); (case ob => rfl); (case oF => k_asm); (case oX => k_asm); (case oT => k_asm); (case oe => k_is); k_whole) | (refine' ce_B ?oF ?oX ?oT ?oe ?ov ?on ?_ ?og ?ogb ?oa ?ob; (case og => rfl); (case ogb => rfl); (case oa => rfl); (case ob => rfl); (case oF => k_asm); (case oX => k_asm); (case oT => k_asm); (case oe => k_is); (case ov => boot_fast); (case on => decide); k_whole)))) | (with_reducible (show wpAny _ _ (eval (PySem.Expr.Name _ _) _) _ _ _; k_here; k_dflt (first | (refine' nameX_F ?oN ?oc ?om ?od ?_ ?oa ?ob; (case oa => rfl); (case ob => rfl); (case oN => k_asm); (case oc => rfl); (case om => k_mem); (case od => k_asm); k_whole) | (refine' nameX_C ?oN ?oc ?om ?od ?_ ?oa ?ob; (case oa => rfl); (case ob => rfl); (case oN => k_asm); (case oc => rfl); (case om => k_mem); (case od => k_asm); k_whole)))) | (with_reducible (show wpAny _ _ (newList _) _ _ _; k_here; k_dflt (refine' newList_K ?ok1 ?ok2 ?_ ?ok3; (case ok1 => k_asm); (case ok2 => k_asm); (case ok3 => exact sz_small rfl); k_whole); intro _ _ _ _ lz; (try k_lt lz); (try (revert lz; intro _)); (try k_sweep))) | (with_reducible (show wpAny _ _ (newTuple _) _ _ _; k_here; k_dflt (refine' kup_newTuple ?oF ?oN ?_ ?oz; (case oF => k_asm); (case oN => k_asm); (case oz => exact sz_small rfl); k_whole); intro _ _ _ _ lz; (try k_lt lz); (try (revert lz; intro _)); (try k_sweep))) | (with_reducible (show wpAny _ _ (subscriptTail _ _ (Value.ref _) (Value.int 0 _)) _ _ _; k_here; k_dflt (refine' sub_head ?ok1 ?ok2 ?_ ?ok7 ?ok8; (case ok1 => k_asm); (case ok2 => k_mem); (case ok7 => with_unfolding_all rfl); (case ok8 => (intro _; with_unfolding_all rfl)); k_whole))) | (with_reducible (show wpAny _ _ (subscriptTail _ _ (Value.ref _) (Value.int _ _)) _ _ _; k_here; k_dflt (refine' sub_ints ?ok1 ?ok2 ?ok3 ?ok4 ?ok5 ?ok6 ?_ ?ok7 ?ok8; (case ok1 => k_asm); (case ok2 => k_mem); (case ok3 => assumption); (case ok4 => first | exact le_pred (by assumption) (by assumption) | omega); (case ok5 => first | (simp only [stepsP_length]; first | exact lt_pred (by assumption) (by assumption) (by assumption) | omega) | (simp only [List.length_cons, List.length_nil]; omega)); (case ok6 => first | (simp only [stepsP_length]; first | assumption | omega) | (simp only [List.length_cons, List.length_nil]; omega)); (case ok7 => with_unfolding_all rfl); (case ok8 => (intro _; with_unfolding_all rfl)); k_whole); intro _ _ _)) | (with_reducible (show wpAny _ _ (subscriptTail _ _ (Value.ref _) (Value.int _ _)) _ _ _; k_here; k_dflt (refine' sub_refs ?ok1 ?ok2 ?ok3 ?ok4 ?ok5 ?_ ?ok6 ?ok7; (case ok1 => k_asm); (case ok2 => k_mem); (case ok3 => first | assumption | exact le_pred (by assumption) (by assumption) | omega); (case ok4 => first | assumption | exact lt_pred (by assumption) (by assumption) (by assumption) | omega); (case ok5 => first | assumption | omega); (case ok6 => with_unfolding_all rfl); (case ok7 => (intro _; with_unfolding_all rfl)); k_whole); intro _ ha'; (try simp only [Int.toNat_natCast] at ha'); revert ha'; intro _)) | walk1 | (dsimp only; walk1)))
    rw [one_add_cast i]
    refine Spec.use (quotient_spec w 840 (i + 1) W _ _ (by omega) (by omega) (by omega) (by omega)) (by k_asm) (by k_asm) (by k_asm) (by k_asm) (by k_asm) rfl (by ktr_room) (by ktr_units) (ht.sub fun q hq => by k_mem) ?_
    rintro r9 news9 h9 tk9 F9 N9 ⟨t9, rfl, hkept9⟩
    have mC9 := hkept9.2 (C, oC) (by k_mem) nC.solid
    have mD9 := hkept9.2 (D9, listOf its.toArray e) (by k_mem) (solid_list _ _)
    have mI9 := hkept9.2 (I, o) (by k_mem) hso.1
    refine comp_end (offA I (offA D9 (offA C news9))) F9 N9 mC9 mD9 mI9 (fun p hp => ?_) ⟨?_, ?_, fun p hp hs => ?_⟩
    · have q1 := mem_offA.mp hp
      have q2 := mem_offA.mp q1.1
      have q3 := mem_offA.mp q2.1
      exact ⟨q3.1, q3.2, q2.2, q1.2⟩
    · rw [stepsP_succ]
      refine ints_append hi ?_
      rw [show (840 : Int) / ((i + 1 : Nat) : Int) = ((840 / (i + 1) : Nat) : Int) from (Int.natCast_ediv 840 (i + 1)).symm]
      exact ints_one _ _
    · exact ((hkept9.1.drop N9 mC9 (plain_ns nC)).drop (news_offA N9) (mem_offA.mpr ⟨mD9, c1.symm⟩) (plain_list _ _)).drop (news_offA (news_offA N9)) (mem_offA.mpr ⟨mem_offA.mpr ⟨mI9, c2.symm⟩, c3.symm⟩) hso
    · have hp' := hkp p hp hs
      have hq := hkept9.2 p (by k_mem) hs
      have hq2 := sep p hp'
      exact mem_offA.mpr ⟨mem_offA.mpr ⟨mem_offA.mpr ⟨hq, hq2.1⟩, hq2.2.1⟩, hq2.2.2⟩
  case done =>
    rintro its led h tk C oC D9 e mC ⟨hi, ht, hkp⟩ F3 N3 nC sep hCD
    rw [toNat_succ_pred B] at hi
    refine' comp_some ?a1 F3 N3 nC sep hCD ?a2 ?a3 ?_
    case a1 => rfl
    case a2 => rfl
    case a3 => rfl
    intro h4 F4 N4 hneD
    repeat' (first | (k_unfold; (try dsimp only); repeat (first | clear ek | clear qk)) | ((fail_if_success (with_reducible show wpAny _ _ (exec (Stmt.While _ _ _ _) _) _ _ _)); (fail_if_success (with_reducible show wpAny _ _ (exec (Stmt.For _ _ _ _ _) _) _ _ _)); (fail_if_success (with_reducible show wpAny _ _ (eval (Expr.ListComp _ _ _ _) _) _ _ _)); (fail_if_success (with_reducible show wpAny _ _ (exec (Stmt.Assign _ (Expr.ListComp _ _ _ _) _) _) _ _ _)); (fail_if_success (with_reducible show wpAny _ _ (pyIter _) _ _ _)); (fail_if_success (with_reducible show wpAny _ _ (call (Value.ref _) _) _ _ _)); (fail_if_success (with_reducible show wpAny _ _ (setItem _ _ _) _ _ _)); (fail_if_success (with_reducible show wpAny _ _ (call (Value.builtin "list.append") _) _ _ _)); (fail_if_success (with_reducible show wpAny _ _ (call (Value.builtin "sorted") _) _ _ _)); (fail_if_success (with_reducible show wpAny _ _ (call (Value.type "list") _) _ _ _)); (fail_if_success (with_reducible show wpAny _ _ (compareOp _ (Value.ref _) (Value.ref _)) _ _ _)); (fail_if_success (with_reducible show wpAny _ _ (binaryOp _ (Value.ref _) (Value.ref _)) _ _ _)); first | ((first | (with_reducible show wpAny _ _ (exec _ _) _ _ _) | ((with_reducible show wpAny _ _ (eval _ _) _ _ _); (fail_if_success (with_reducible show wpAny _ _ (eval (PySem.Expr.Name _ _) _) _ _ _)); (fail_if_success (with_reducible show wpAny _ _ (eval (PySem.Expr.Constant _ _ _) _) _ _ _)); skip)); k_fold) | (with_reducible (show wpAny _ _ (binaryOp Operator.Add (Value.int _ _) (Value.int _ _)) _ _ _; k_here; (refine my_add ?_); intro _ _ _)) | (with_reducible (show wpAny _ _ (binaryOp Operator.Mult (Value.int _ _) (Value.int _ _)) _ _ _; k_here; (refine my_mul (by first | (left; decide) | (right; decide) | (left; assumption) | (right; assumption) | omega) ?_); intro _ _ _)) | (with_reducible (show wpAny _ _ (binaryOp Operator.Sub (Value.int _ _) (Value.int _ _)) _ _ _; k_here; (refine my_sub ?_); intro _ _ _)) | (with_reducible (show wpAny _ _ (call (Value.builtin "len") [Value.ref _]) _ _ _; k_here; k_dflt (refine' len_refs ?ok1 ?ok2 ?ok3 ?_; (case ok1 => k_asm); (case ok2 => k_mem); (case ok3 => first | assumption | omega); k_whole); intro _ _)) | (with_reducible (show wpAny _ _ (call (Value.type "range") _) _ _ _; k_here; k_dflt (first | (refine' my_range1 ?ok1 ?ok2 ?_; (case ok1 => k_asm); (case ok2 => k_asm); k_whole; intro _ _ _ _ _ _ _ _) | (refine' my_range2 ?ok1 ?ok2 ?_; (case ok1 => k_asm); (case ok2 => k_asm); k_whole; intro _ _ _ _ _ _ _)); (try k_sweep))) | (with_reducible (show wpAny _ _ (callWith _ (Value.ref _) _ _ _) _ _ _; k_here; k_dflt (first | (refine' callWith_K ?ok1 ?ok2 ?_; (case ok1 => k_asm); (case ok2 => k_is); k_whole) | (refine' callWith_K0 ?ok1 ?ok2 ?_; (case ok1 => k_in); (case ok2 => k_is); k_whole)))) | (with_reducible (show wpAny _ _ (eval (PySem.Expr.Name _ _) (compEnvC _ _ _ _)) _ _ _; k_here; k_dflt (first | (refine' ce_local ?oN ?om ?on ?ov ?_ ?oa ?ob; (case oa => rfl); (case ob => rfl); (case on => assumption); (case oN => k_asm); (case om => k_mem); (case ov => assumption); k_whole) | (refine' ce_cell ?oN ?oc ?om ?od ?_ ?oa ?ob; (case oa => rfl); (case ob => rfl); (case oN => k_asm); (case oc => rfl); (case om => k_mem); (case od => k_asm); k_whole) | (refine' ce_K ?oF ?oX ?oT ?oe ?_ ?og ?oa ?ob; (case og => rfl); (case oa => rfl); (case ob => rfl); (case oF => k_asm); (case oX => k_asm); (case oT => k_asm); (case oe => k_is); k_whole) | (refine' ce_B ?oF ?oX ?oT ?oe ?ov ?on ?_ ?og ?ogb ?oa ?ob; (case og => rfl); (case ogb => rfl); (case oa => rfl); (case ob => rfl); (case oF => k_asm); (case oX => k_asm); (case oT => k_asm); (case oe => k_is); (case ov => boot_fast); (case on => decide); k_whole)))) | (with_reducible (show wpAny _ _ (eval (PySem.Expr.Name _ _) _) _ _ _; k_here; k_dflt (first | (refine' nameX_F ?oN ?oc ?om ?od ?_ ?oa ?ob; (case oa => rfl); (case ob => rfl); (case oN => k_asm); (case oc => rfl); (case om => k_mem); (case od => k_asm); k_whole) | (refine' nameX_C ?oN ?oc ?om ?od ?_ ?oa ?ob; (case oa => rfl); (case ob => rfl); (case oN => k_asm); (case oc => rfl); (case om => k_mem); (case od => k_asm); k_whole)))) | (with_reducible (show wpAny _ _ (newList _) _ _ _; k_here; k_dflt (refine' newList_K ?ok1 ?ok2 ?_ ?ok3; (case ok1 => k_asm); (case ok2 => k_asm); (case ok3 => exact sz_small rfl); k_whole); intro _ _ _ _ lz; (try k_lt lz); (try (revert lz; intro _)); (try k_sweep))) | (with_reducible (show wpAny _ _ (newTuple _) _ _ _; k_here; k_dflt (refine' kup_newTuple ?oF ?oN ?_ ?oz; (case oF => k_asm); (case oN => k_asm); (case oz => exact sz_small rfl); k_whole); intro _ _ _ _ lz; (try k_lt lz); (try (revert lz; intro _)); (try k_sweep))) | (with_reducible (show wpAny _ _ (subscriptTail _ _ (Value.ref _) (Value.int 0 _)) _ _ _; k_here; k_dflt (refine' sub_head ?ok1 ?ok2 ?_ ?ok7 ?ok8; (case ok1 => k_asm); (case ok2 => k_mem); (case ok7 => with_unfolding_all rfl); (case ok8 => (intro _; with_unfolding_all rfl)); k_whole))) | (with_reducible (show wpAny _ _ (subscriptTail _ _ (Value.ref _) (Value.int _ _)) _ _ _; k_here; k_dflt (refine' sub_ints ?ok1 ?ok2 ?ok3 ?ok4 ?ok5 ?ok6 ?_ ?ok7 ?ok8; (case ok1 => k_asm); (case ok2 => k_mem); (case ok3 => assumption); (case ok4 => first | exact le_pred (by assumption) (by assumption) | omega); (case ok5 => first | (simp only [stepsP_length]; first | exact lt_pred (by assumption) (by assumption) (by assumption) | omega) | (simp only [List.length_cons, List.length_nil]; omega)); (case ok6 => first | (simp only [stepsP_length]; first | assumption | omega) | (simp only [List.length_cons, List.length_nil]; omega)); (case ok7 => with_unfolding_all rfl); (case ok8 => (intro _; with_unfolding_all rfl)); k_whole); intro _ _ _)) | (with_reducible (show wpAny _ _ (subscriptTail _ _ (Value.ref _) (Value.int _ _)) _ _ _; k_here; k_dflt (refine' sub_refs ?ok1 ?ok2 ?ok3 ?ok4 ?ok5 ?_ ?ok6 ?ok7; (case ok1 => k_asm); (case ok2 => k_mem); (case ok3 => first | assumption | exact le_pred (by assumption) (by assumption) | omega); (case ok4 => first | assumption | exact lt_pred (by assumption) (by assumption) (by assumption) | omega); (case ok5 => first | assumption | omega); (case ok6 => with_unfolding_all rfl); (case ok7 => (intro _; with_unfolding_all rfl)); k_whole); intro _ ha'; (try simp only [Int.toNat_natCast] at ha'); revert ha'; intro _)) | walk1 | (dsimp only; walk1)))
    (first | (with_reducible (show wpAny _ _ (binaryOp Operator.Add (Value.int _ _) (Value.int _ _)) _ _ _; k_here; (refine my_add ?_); intro _ _ _)) | (with_reducible (show wpAny _ _ (binaryOp Operator.Mult (Value.int _ _) (Value.int _ _)) _ _ _; k_here; (refine my_mul (by first | (left; decide) | (right; decide) | (left; assumption) | (right; assumption) | omega) ?_); intro _ _ _)) | (with_reducible (show wpAny _ _ (binaryOp Operator.Sub (Value.int _ _) (Value.int _ _)) _ _ _; k_here; (refine my_sub ?_); intro _ _ _)) | (with_reducible (show wpAny _ _ (call (Value.builtin "len") [Value.ref _]) _ _ _; k_here; k_dflt (refine' len_refs ?ok1 ?ok2 ?ok3 ?_; (case ok1 => k_asm); (case ok2 => k_mem); (case ok3 => first | assumption | omega); k_whole); intro _ _)) | (with_reducible (show wpAny _ _ (call (Value.type "range") _) _ _ _; k_here; k_dflt (first | (refine' my_range1 ?ok1 ?ok2 ?_; (case ok1 => k_asm); (case ok2 => k_asm); k_whole; intro _ _ _ _ _ _ _ _) | (refine' my_range2 ?ok1 ?ok2 ?_; (case ok1 => k_asm); (case ok2 => k_asm); k_whole; intro _ _ _ _ _ _ _)); (try k_sweep))) | (with_reducible (show wpAny _ _ (callWith _ (Value.ref _) _ _ _) _ _ _; k_here; k_dflt (first | (refine' callWith_K ?ok1 ?ok2 ?_; (case ok1 => k_asm); (case ok2 => k_is); k_whole) | (refine' callWith_K0 ?ok1 ?ok2 ?_; (case ok1 => k_in); (case ok2 => k_is); k_whole)))) | (with_reducible (show wpAny _ _ (eval (PySem.Expr.Name _ _) (compEnvC _ _ _ _)) _ _ _; k_here; k_dflt (first | (refine' ce_local ?oN ?om ?on ?ov ?_ ?oa ?ob; (case oa => rfl); (case ob => rfl); (case on => assumption); (case oN => k_asm); (case om => k_mem); (case ov => assumption); k_whole) | (refine' ce_cell ?oN ?oc ?om ?od ?_ ?oa ?ob; (case oa => rfl); (case ob => rfl); (case oN => k_asm); (case oc => rfl); (case om => k_mem); (case od => k_asm); k_whole) | (refine' ce_K ?oF ?oX ?oT ?oe ?_ ?og ?oa ?ob; (case og => rfl); (case oa => rfl); (case ob => rfl); (case oF => k_asm); (case oX => k_asm); (case oT => k_asm); (case oe => k_is); k_whole) | (refine' ce_B ?oF ?oX ?oT ?oe ?ov ?on ?_ ?og ?ogb ?oa ?ob; (case og => rfl); (case ogb => rfl); (case oa => rfl); (case ob => rfl); (case oF => k_asm); (case oX => k_asm); (case oT => k_asm); (case oe => k_is); (case ov => boot_fast); (case on => decide); k_whole)))) | (with_reducible (show wpAny _ _ (eval (PySem.Expr.Name _ _) _) _ _ _; k_here; k_dflt (first | (refine' nameX_F ?oN ?oc ?om ?od ?_ ?oa ?ob; (case oa => rfl); (case ob => rfl); (case oN => k_asm); (case oc => rfl); (case om => k_mem); (case od => k_asm); k_whole) | (refine' nameX_C ?oN ?oc ?om ?od ?_ ?oa ?ob; (case oa => rfl); (case ob => rfl); (case oN => k_asm); (case oc => rfl); (case om => k_mem); (case od => k_asm); k_whole)))) | (with_reducible (show wpAny _ _ (newList _) _ _ _; k_here; k_dflt (refine' newList_K ?ok1 ?ok2 ?_ ?ok3; (case ok1 => k_asm); (case ok2 => k_asm); (case ok3 => exact sz_small rfl); k_whole); intro _ _ _ _ lz; (try k_lt lz); (try (revert lz; intro _)); (try k_sweep))) | (with_reducible (show wpAny _ _ (newTuple _) _ _ _; k_here; k_dflt (refine' kup_newTuple ?oF ?oN ?_ ?oz; (case oF => k_asm); (case oN => k_asm); (case oz => exact sz_small rfl); k_whole); intro _ _ _ _ lz; (try k_lt lz); (try (revert lz; intro _)); (try k_sweep))) | (with_reducible (show wpAny _ _ (subscriptTail _ _ (Value.ref _) (Value.int 0 _)) _ _ _; k_here; k_dflt (refine' sub_head ?ok1 ?ok2 ?_ ?ok7 ?ok8; (case ok1 => k_asm); (case ok2 => k_mem); (case ok7 => with_unfolding_all rfl); (case ok8 => (intro _; with_unfolding_all rfl)); k_whole))) | (with_reducible (show wpAny _ _ (subscriptTail _ _ (Value.ref _) (Value.int _ _)) _ _ _; k_here; k_dflt (refine' sub_ints ?ok1 ?ok2 ?ok3 ?ok4 ?ok5 ?ok6 ?_ ?ok7 ?ok8; (case ok1 => k_asm); (case ok2 => k_mem); (case ok3 => assumption); (case ok4 => first | exact le_pred (by assumption) (by assumption) | omega); (case ok5 => first | (simp only [stepsP_length]; first | exact lt_pred (by assumption) (by assumption) (by assumption) | omega) | (simp only [List.length_cons, List.length_nil]; omega)); (case ok6 => first | (simp only [stepsP_length]; first | assumption | omega) | (simp only [List.length_cons, List.length_nil]; omega)); (case ok7 => with_unfolding_all rfl); (case ok8 => (intro _; with_unfolding_all rfl)); k_whole); intro _ _ _)) | (with_reducible (show wpAny _ _ (subscriptTail _ _ (Value.ref _) (Value.int _ _)) _ _ _; k_here; k_dflt (refine' sub_refs ?ok1 ?ok2 ?ok3 ?ok4 ?ok5 ?_ ?ok6 ?ok7; (case ok1 => k_asm); (case ok2 => k_mem); (case ok3 => first | assumption | exact le_pred (by assumption) (by assumption) | omega); (case ok4 => first | assumption | exact lt_pred (by assumption) (by assumption) (by assumption) | omega); (case ok5 => first | assumption | omega); (case ok6 => with_unfolding_all rfl); (case ok7 => (intro _; with_unfolding_all rfl)); k_whole); intro _ ha'; (try simp only [Int.toNat_natCast] at ha'); revert ha'; intro _)) | walk1)
    repeat' (first | (k_unfold; (try dsimp only); repeat (first | clear ek | clear qk)) | ((fail_if_success (with_reducible show wpAny _ _ (exec (Stmt.While _ _ _ _) _) _ _ _)); (fail_if_success (with_reducible show wpAny _ _ (exec (Stmt.For _ _ _ _ _) _) _ _ _)); (fail_if_success (with_reducible show wpAny _ _ (eval (Expr.ListComp _ _ _ _) _) _ _ _)); (fail_if_success (with_reducible show wpAny _ _ (exec (Stmt.Assign _ (Expr.ListComp _ _ _ _) _) _) _ _ _)); (fail_if_success (with_reducible show wpAny _ _ (pyIter _) _ _ _)); (fail_if_success (with_reducible show wpAny _ _ (call (Value.ref _) _) _ _ _)); (fail_if_success (with_reducible show wpAny _ _ (setItem _ _ _) _ _ _)); (fail_if_success (with_reducible show wpAny _ _ (call (Value.builtin "list.append") _) _ _ _)); (fail_if_success (with_reducible show wpAny _ _ (call (Value.builtin "sorted") _) _ _ _)); (fail_if_success (with_reducible show wpAny _ _ (call (Value.type "list") _) _ _ _)); (fail_if_success (with_reducible show wpAny _ _ (compareOp _ (Value.ref _) (Value.ref _)) _ _ _)); (fail_if_success (with_reducible show wpAny _ _ (binaryOp _ (Value.ref _) (Value.ref _)) _ _ _)); first | ((first | (with_reducible show wpAny _ _ (exec _ _) _ _ _) | ((with_reducible show wpAny _ _ (eval _ _) _ _ _); (fail_if_success (with_reducible show wpAny _ _ (eval (PySem.Expr.Name _ _) _) _ _ _)); (fail_if_success (with_reducible show wpAny _ _ (eval (PySem.Expr.Constant _ _ _) _) _ _ _)); skip)); k_fold) | (with_reducible (show wpAny _ _ (binaryOp Operator.Add (Value.int _ _) (Value.int _ _)) _ _ _; k_here; (refine my_add ?_); intro _ _ _)) | (with_reducible (show wpAny _ _ (binaryOp Operator.Mult (Value.int _ _) (Value.int _ _)) _ _ _; k_here; (refine my_mul (by first | (left; decide) | (right; decide) | (left; assumption) | (right; assumption) | omega) ?_); intro _ _ _)) | (with_reducible (show wpAny _ _ (binaryOp Operator.Sub (Value.int _ _) (Value.int _ _)) _ _ _; k_here; (refine my_sub ?_); intro _ _ _)) | (with_reducible (show wpAny _ _ (call (Value.builtin "len") [Value.ref _]) _ _ _; k_here; k_dflt (refine' len_refs ?ok1 ?ok2 ?ok3 ?_; (case ok1 => k_asm); (case ok2 => k_mem); (case ok3 => first | assumption | omega); k_whole); intro _ _)) | (with_reducible (show wpAny _ _ (call (Value.type "range") _) _ _ _; k_here; k_dflt (first | (refine' my_range1 ?ok1 ?ok2 ?_; (case ok1 => k_asm); (case ok2 => k_asm); k_whole; intro _ _ _ _ _ _ _ _) | (refine' my_range2 ?ok1 ?ok2 ?_; (case ok1 => k_asm); (case ok2 => k_asm); k_whole; intro _ _ _ _ _ _ _)); (try k_sweep))) | (with_reducible (show wpAny _ _ (callWith _ (Value.ref _) _ _ _) _ _ _; k_here; k_dflt (first | (refine' callWith_K ?ok1 ?ok2 ?_; (case ok1 => k_asm); (case ok2 => k_is); k_whole) | (refine' callWith_K0 ?ok1 ?ok2 ?_; (case ok1 => k_in); (case ok2 => k_is); k_whole)))) | (with_reducible (show wpAny _ _ (eval (PySem.Expr.Name _ _) (compEnvC _ _ _ _)) _ _ _; k_here; k_dflt (first | (refine' ce_local ?oN ?om ?on ?ov ?_ ?oa ?ob; (case oa => rfl); (case ob => rfl); (case on => assumption); (case oN => k_asm); (case om => k_mem); (case ov => assumption); k_whole) | (refine' ce_cell ?oN ?oc ?om ?od ?_ ?oa ?ob; (case oa => rfl); (case ob => rfl); (case oN => k_asm); (case oc => rfl); (case om => k_mem); (case od => k_asm); k_whole) | (refine' ce_K ?oF ?oX ?oT ?oe ?_ ?og ?oa ?ob; (case og => rfl); (case oa => rfl); (case ob => rfl); (case oF => k_asm); (case oX => k_asm); (case oT => k_asm); (case oe => k_is); k_whole) | (refine' ce_B ?oF ?oX ?oT ?oe ?ov ?on ?_ ?og ?ogb ?oa ?ob; (case og => rfl); (case ogb => rfl); (case oa => rfl); (case ob => rfl); (case oF => k_asm); (case oX => k_asm); (case oT => k_asm); (case oe => k_is); (case ov => boot_fast); (case on => decide); k_whole)))) | (with_reducible (show wpAny _ _ (eval (PySem.Expr.Name _ _) _) _ _ _; k_here; k_dflt (first | (refine' nameX_F ?oN ?oc ?om ?od ?_ ?oa ?ob; (case oa => rfl); (case ob => rfl); (case oN => k_asm); (case oc => rfl); (case om => k_mem); (case od => k_asm); k_whole) | (refine' nameX_C ?oN ?oc ?om ?od ?_ ?oa ?ob; (case oa => rfl); (case ob => rfl); (case oN => k_asm); (case oc => rfl); (case om => k_mem); (case od => k_asm); k_whole)))) | (with_reducible (show wpAny _ _ (newList _) _ _ _; k_here; k_dflt (refine' newList_K ?ok1 ?ok2 ?_ ?ok3; (case ok1 => k_asm); (case ok2 => k_asm); (case ok3 => exact sz_small rfl); k_whole); intro _ _ _ _ lz; (try k_lt lz); (try (revert lz; intro _)); (try k_sweep))) | (with_reducible (show wpAny _ _ (newTuple _) _ _ _; k_here; k_dflt (refine' kup_newTuple ?oF ?oN ?_ ?oz; (case oF => k_asm); (case oN => k_asm); (case oz => exact sz_small rfl); k_whole); intro _ _ _ _ lz; (try k_lt lz); (try (revert lz; intro _)); (try k_sweep))) | (with_reducible (show wpAny _ _ (subscriptTail _ _ (Value.ref _) (Value.int 0 _)) _ _ _; k_here; k_dflt (refine' sub_head ?ok1 ?ok2 ?_ ?ok7 ?ok8; (case ok1 => k_asm); (case ok2 => k_mem); (case ok7 => with_unfolding_all rfl); (case ok8 => (intro _; with_unfolding_all rfl)); k_whole))) | (with_reducible (show wpAny _ _ (subscriptTail _ _ (Value.ref _) (Value.int _ _)) _ _ _; k_here; k_dflt (refine' sub_ints ?ok1 ?ok2 ?ok3 ?ok4 ?ok5 ?ok6 ?_ ?ok7 ?ok8; (case ok1 => k_asm); (case ok2 => k_mem); (case ok3 => assumption); (case ok4 => first | exact le_pred (by assumption) (by assumption) | omega); (case ok5 => first | (simp only [stepsP_length]; first | exact lt_pred (by assumption) (by assumption) (by assumption) | omega) | (simp only [List.length_cons, List.length_nil]; omega)); (case ok6 => first | (simp only [stepsP_length]; first | assumption | omega) | (simp only [List.length_cons, List.length_nil]; omega)); (case ok7 => with_unfolding_all rfl); (case ok8 => (intro _; with_unfolding_all rfl)); k_whole); intro _ _ _)) | (with_reducible (show wpAny _ _ (subscriptTail _ _ (Value.ref _) (Value.int _ _)) _ _ _; k_here; k_dflt (refine' sub_refs ?ok1 ?ok2 ?ok3 ?ok4 ?ok5 ?_ ?ok6 ?ok7; (case ok1 => k_asm); (case ok2 => k_mem); (case ok3 => first | assumption | exact le_pred (by assumption) (by assumption) | omega); (case ok4 => first | assumption | exact lt_pred (by assumption) (by assumption) (by assumption) | omega); (case ok5 => first | assumption | omega); (case ok6 => with_unfolding_all rfl); (case ok7 => (intro _; with_unfolding_all rfl)); k_whole); intro _ ha'; (try simp only [Int.toNat_natCast] at ha'); revert ha'; intro _)) | walk1 | (dsimp only; walk1)))
    rename Fr _ _ _ _ => lF
    rename News _ _ _ _ => lN
    rename_i La _ hLaA No _ hNoA Tt _ _ _ _ _ _ hv _ Rr _ _ _ hRrA
    rw [cast_succ B] at hv
    subst hv
    have hLa1 := allLt_mem hLaA.2
    have hNo1 := allLt_mem hNoA.2.2
    refine' for_rangeO (σ := List Addr) (fun _ => []) [Str.ofString "low", Str.ofString "high"] (fun i las led => LI news (L' + 1) (L' + 1 + 1) D9 La No W B x b i las led) [] rfl ?hr ?h1 ?h2 ?h3 ?h4 lF lN ?kk ?k0 ?turn ?done
    case hr => k_mem
    case h1 => decide
    case h2 => omega
    case h3 => omega
    case h4 => omega
    case kk => kst_all
    case k0 =>
      refine ⟨rfl, .nil, by simp, ⟨o1, ?_, d1⟩, ⟨o2, ?_, d2⟩, ⟨_, _, by k_mem, hi⟩, ⟨0, by k_mem⟩, ⟨0, by k_mem⟩, fun l h1 h2 => absurd h1 (by omega), ht.sub fun q hq => by k_mem, fun p hp hs => ⟨?_, ?_, ?_, ?_⟩, ?_, ?_, ?_⟩
      · have := hkp (L' + 1, o1) (by k_mem) (solid_cell d1)
        k_mem
      · have := hkp (L' + 1 + 1, o2) (by k_mem) (solid_cell d2)
        k_mem
      · have := hkp p (by k_mem) hs
        k_mem
      · exact Nat.ne_of_lt (hLa1 p (hkp p (by k_mem) hs))
      · exact Nat.ne_of_lt (hNo1 p (hkp p (by k_mem) hs))
      · exact Nat.ne_of_lt (Nat.lt_succ_of_lt (Nat.lt_succ_of_lt (l1 p hp)))
      · exact Nat.ne_of_lt hLaA.1
      · exact Ne.symm (Nat.ne_of_lt hNoA.1)
      · exact Nat.ne_of_lt hNoA.2.1
    case turn =>
      rintro I i tu las u led5 hp tkd o hso hin hT hneI F5 N5
      dsimp only [kstB] at F5
      rw [one_add_cast i] at F5
      (try k_fold)
      have hT0 := hT
      obtain ⟨l1', nd, z, ⟨p1, m1, e1⟩, ⟨p2, m2, e2⟩, ⟨svs, e3, m3, i3⟩, ⟨e4, m4⟩, ⟨e5, m5⟩, it, tb, kp, ds⟩ := hT
      repeat' (first | (k_unfold; (try dsimp only); repeat (first | clear ek | clear qk)) | ((fail_if_success (with_reducible show wpAny _ _ (exec (Stmt.While _ _ _ _) _) _ _ _)); (fail_if_success (with_reducible show wpAny _ _ (exec (Stmt.For _ _ _ _ _) _) _ _ _)); (fail_if_success (with_reducible show wpAny _ _ (eval (Expr.ListComp _ _ _ _) _) _ _ _)); (fail_if_success (with_reducible show wpAny _ _ (exec (Stmt.Assign _ (Expr.ListComp _ _ _ _) _) _) _ _ _)); (fail_if_success (with_reducible show wpAny _ _ (pyIter _) _ _ _)); (fail_if_success (with_reducible show wpAny _ _ (call (Value.ref _) _) _ _ _)); (fail_if_success (with_reducible show wpAny _ _ (setItem _ _ _) _ _ _)); (fail_if_success (with_reducible show wpAny _ _ (call (Value.builtin "list.append") _) _ _ _)); (fail_if_success (with_reducible show wpAny _ _ (call (Value.builtin "sorted") _) _ _ _)); (fail_if_success (with_reducible show wpAny _ _ (call (Value.type "list") _) _ _ _)); (fail_if_success (with_reducible show wpAny _ _ (compareOp _ (Value.ref _) (Value.ref _)) _ _ _)); (fail_if_success (with_reducible show wpAny _ _ (binaryOp _ (Value.ref _) (Value.ref _)) _ _ _)); first | ((first | (with_reducible show wpAny _ _ (exec _ _) _ _ _) | ((with_reducible show wpAny _ _ (eval _ _) _ _ _); (fail_if_success (with_reducible show wpAny _ _ (eval (PySem.Expr.Name _ _) _) _ _ _)); (fail_if_success (with_reducible show wpAny _ _ (eval (PySem.Expr.Constant _ _ _) _) _ _ _)); skip)); k_fold) | (with_reducible (show wpAny _ _ (binaryOp Operator.Add (Value.int _ _) (Value.int _ _)) _ _ _; k_here; (refine my_add ?_); intro _ _ _)) | (with_reducible (show wpAny _ _ (binaryOp Operator.Mult (Value.int _ _) (Value.int _ _)) _ _ _; k_here; (refine my_mul (by first | (left; decide) | (right; decide) | (left; assumption) | (right; assumption) | omega) ?_); intro _ _ _)) | (with_reducible (show wpAny _ _ (binaryOp Operator.Sub (Value.int _ _) (Value.int _ _)) _ _ _; k_here; (refine my_sub ?_); intro _ _ _)) | (with_reducible (show wpAny _ _ (call (Value.builtin "len") [Value.ref _]) _ _ _; k_here; k_dflt (refine' len_refs ?ok1 ?ok2 ?ok3 ?_; (case ok1 => k_asm); (case ok2 => k_mem); (case ok3 => first | assumption | omega); k_whole); intro _ _)) | (with_reducible (show wpAny _ _ (call (Value.type "range") _) _ _ _; k_here; k_dflt (first | (refine' my_range1 ?ok1 ?ok2 ?_; (case ok1 => k_asm); (case ok2 => k_asm); k_whole; intro _ _ _ _ _ _ _ _) | (refine' my_range2 ?ok1 ?ok2 ?_; (case ok1 => k_asm); (case ok2 => k_asm); k_whole; intro _ _ _ _ _ _ _)); (try k_sweep))) | (with_reducible (show wpAny _ _ (callWith _ (Value.ref _) _ _ _) _ _ _; k_here; k_dflt (first | (refine' callWith_K ?ok1 ?ok2 ?_; (case ok1 => k_asm); (case ok2 => k_is); k_whole) | (refine' callWith_K0 ?ok1 ?ok2 ?_; (case ok1 => k_in); (case ok2 => k_is); k_whole)))) | (with_reducible (show wpAny _ _ (eval (PySem.Expr.Name _ _) (compEnvC _ _ _ _)) _ _ _; k_here; k_dflt (first | (refine' ce_local ?oN ?om ?on ?ov ?_ ?oa ?ob; (case oa => rfl); (case ob => rfl); (case on => assumption); (case oN => k_asm); (case om => k_mem); (case ov => assumption); k_whole) | (refine' ce_cell ?oN ?oc ?om ?od ?_ ?oa ?ob; (case oa => rfl); (case ob => rfl); (case oN => k_asm); (case oc => rfl); (case om => k_mem); (case od => k_asm); k_whole) | (refine' ce_K ?oF ?oX ?oT ?oe ?_ ?og ?oa ?ob; (case og => rfl); (case oa => rfl); (case ob => rfl); (case oF => k_asm); (case oX => k_asm); (case oT => k_asm); (case oe => k_is); k_whole) | (refine' ce_B ?oF ?oX ?oT ?oe ?ov ?on ?_ ?og ?ogb ?oa ?ob; (case og => rfl); (case ogb => rfl); (case oa => rfl); (case ob => rfl); (case oF => k_asm); (case oX => k_asm); (case oT => k_asm); (case oe => k_is); (case ov => boot_fast); (case on => decide); k_whole)))) | (with_reducible (show wpAny _ _ (eval (PySem.Expr.Name _ _) _) _ _ _; k_here; k_dflt (first | (refine' nameX_F ?oN ?oc ?om ?od ?_ ?oa ?ob; (case oa => rfl); (case ob => rfl); (case oN => k_asm); (case oc => rfl); (case om => k_mem); (case od => k_asm); k_whole) | (refine' nameX_C ?oN ?oc ?om ?od ?_ ?oa ?ob; (case oa => rfl); (case ob => rfl); (case oN => k_asm); (case oc => rfl); (case om => k_mem); (case od => k_asm); k_whole)))) | (with_reducible (show wpAny _ _ (newList _) _ _ _; k_here; k_dflt (refine' newList_K ?ok1 ?ok2 ?_ ?ok3; (case ok1 => k_asm); (case ok2 => k_asm); (case ok3 => exact sz_small rfl); k_whole); intro _ _ _ _ lz; (try k_lt lz); (try (revert lz; intro _)); (try k_sweep))) | (with_reducible (show wpAny _ _ (newTuple _) _ _ _; k_here; k_dflt (refine' kup_newTuple ?oF ?oN ?_ ?oz; (case oF => k_asm); (case oN => k_asm); (case oz => exact sz_small rfl); k_whole); intro _ _ _ _ lz; (try k_lt lz); (try (revert lz; intro _)); (try k_sweep))) | (with_reducible (show wpAny _ _ (subscriptTail _ _ (Value.ref _) (Value.int 0 _)) _ _ _; k_here; k_dflt (refine' sub_head ?ok1 ?ok2 ?_ ?ok7 ?ok8; (case ok1 => k_asm); (case ok2 => k_mem); (case ok7 => with_unfolding_all rfl); (case ok8 => (intro _; with_unfolding_all rfl)); k_whole))) | (with_reducible (show wpAny _ _ (subscriptTail _ _ (Value.ref _) (Value.int _ _)) _ _ _; k_here; k_dflt (refine' sub_ints ?ok1 ?ok2 ?ok3 ?ok4 ?ok5 ?ok6 ?_ ?ok7 ?ok8; (case ok1 => k_asm); (case ok2 => k_mem); (case ok3 => assumption); (case ok4 => first | exact le_pred (by assumption) (by assumption) | omega); (case ok5 => first | (simp only [stepsP_length]; first | exact lt_pred (by assumption) (by assumption) (by assumption) | omega) | (simp only [List.length_cons, List.length_nil]; omega)); (case ok6 => first | (simp only [stepsP_length]; first | assumption | omega) | (simp only [List.length_cons, List.length_nil]; omega)); (case ok7 => with_unfolding_all rfl); (case ok8 => (intro _; with_unfolding_all rfl)); k_whole); intro _ _ _)) | (with_reducible (show wpAny _ _ (subscriptTail _ _ (Value.ref _) (Value.int _ _)) _ _ _; k_here; k_dflt (refine' sub_refs ?ok1 ?ok2 ?ok3 ?ok4 ?ok5 ?_ ?ok6 ?ok7; (case ok1 => k_asm); (case ok2 => k_mem); (case ok3 => first | assumption | exact le_pred (by assumption) (by assumption) | omega); (case ok4 => first | assumption | exact lt_pred (by assumption) (by assumption) (by assumption) | omega); (case ok5 => first | assumption | omega); (case ok6 => with_unfolding_all rfl); (case ok7 => (intro _; with_unfolding_all rfl)); k_whole); intro _ ha'; (try simp only [Int.toNat_natCast] at ha'); revert ha'; intro _)) | walk1 | (dsimp only; walk1)))
      rename _ = -x * _ => hv
      subst hv
      have hin' : i < B := toNat_succ_pred B ▸ hin
      have hxl : -(2 ^ 20 * 8) ≤ -x * ((i + 1 : Nat) : Int) ∧ -x * ((i + 1 : Nat) : Int) ≤ 2 ^ 20 * 8 := by
        exact box8 hx1 hx2 (Nat.le_trans (Nat.succ_le_of_lt hin') hB)
      refine Spec.use (quotient_spec w (-x * ((i + 1 : Nat) : Int)) b W _ _ (by omega) (by omega) hb (by omega)) (by k_asm) (by k_asm) (by k_asm) (by k_asm) (by k_asm) rfl (by ktr_room) (by ktr_units) (tb.sub fun q hq => by k_mem) ?_
      rintro r8 news8 h8 tk8 F8 N8 ⟨t8, rfl, hkept8⟩
      have k8 : ∀ p ∈ led5, Solid p.2 → p ∈ news8 := fun p hp hs => hkept8.2 p (by k_mem) hs
      have hI8 : (I, o) ∈ news8 := hkept8.2 _ (by k_mem) (solid_it hso)
      have m38 := k8 _ m3 (solid_list _ _)
      have m48 := k8 _ m4 (solid_list _ _)
      have hq8 := Int.natAbs_ediv_le_natAbs (-x * ((i + 1 : Nat) : Int)) (b : Int)
      have hhi : hi0 x b (i + 1) = -(-x * ((i + 1 : Nat) : Int) / (b : Int)) := rfl
      generalize hqe : -x * ((i + 1 : Nat) : Int) / (b : Int) = q8 at *
      have hq9 : q8.natAbs ≤ 2 ^ 20 * 8 := Nat.le_trans hq8 (abs_box hxl)
      have hqn := abs_neg60 (lt60 hq9)
      repeat' (first | (k_unfold; (try dsimp only); repeat (first | clear ek | clear qk)) | ((fail_if_success (with_reducible show wpAny _ _ (exec (Stmt.While _ _ _ _) _) _ _ _)); (fail_if_success (with_reducible show wpAny _ _ (exec (Stmt.For _ _ _ _ _) _) _ _ _)); (fail_if_success (with_reducible show wpAny _ _ (eval (Expr.ListComp _ _ _ _) _) _ _ _)); (fail_if_success (with_reducible show wpAny _ _ (exec (Stmt.Assign _ (Expr.ListComp _ _ _ _) _) _) _ _ _)); (fail_if_success (with_reducible show wpAny _ _ (pyIter _) _ _ _)); (fail_if_success (with_reducible show wpAny _ _ (call (Value.ref _) _) _ _ _)); (fail_if_success (with_reducible show wpAny _ _ (setItem _ _ _) _ _ _)); (fail_if_success (with_reducible show wpAny _ _ (call (Value.builtin "list.append") _) _ _ _)); (fail_if_success (with_reducible show wpAny _ _ (call (Value.builtin "sorted") _) _ _ _)); (fail_if_success (with_reducible show wpAny _ _ (call (Value.type "list") _) _ _ _)); (fail_if_success (with_reducible show wpAny _ _ (compareOp _ (Value.ref _) (Value.ref _)) _ _ _)); (fail_if_success (with_reducible show wpAny _ _ (binaryOp _ (Value.ref _) (Value.ref _)) _ _ _)); first | ((first | (with_reducible show wpAny _ _ (exec _ _) _ _ _) | ((with_reducible show wpAny _ _ (eval _ _) _ _ _); (fail_if_success (with_reducible show wpAny _ _ (eval (PySem.Expr.Name _ _) _) _ _ _)); (fail_if_success (with_reducible show wpAny _ _ (eval (PySem.Expr.Constant _ _ _) _) _ _ _)); skip)); k_fold) | (with_reducible (show wpAny _ _ (binaryOp Operator.Add (Value.int _ _) (Value.int _ _)) _ _ _; k_here; (refine my_add ?_); intro _ _ _)) | (with_reducible (show wpAny _ _ (binaryOp Operator.Mult (Value.int _ _) (Value.int _ _)) _ _ _; k_here; (refine my_mul (by first | (left; decide) | (right; decide) | (left; assumption) | (right; assumption) | omega) ?_); intro _ _ _)) | (with_reducible (show wpAny _ _ (binaryOp Operator.Sub (Value.int _ _) (Value.int _ _)) _ _ _; k_here; (refine my_sub ?_); intro _ _ _)) | (with_reducible (show wpAny _ _ (call (Value.builtin "len") [Value.ref _]) _ _ _; k_here; k_dflt (refine' len_refs ?ok1 ?ok2 ?ok3 ?_; (case ok1 => k_asm); (case ok2 => k_mem); (case ok3 => first | assumption | omega); k_whole); intro _ _)) | (with_reducible (show wpAny _ _ (call (Value.type "range") _) _ _ _; k_here; k_dflt (first | (refine' my_range1 ?ok1 ?ok2 ?_; (case ok1 => k_asm); (case ok2 => k_asm); k_whole; intro _ _ _ _ _ _ _ _) | (refine' my_range2 ?ok1 ?ok2 ?_; (case ok1 => k_asm); (case ok2 => k_asm); k_whole; intro _ _ _ _ _ _ _)); (try k_sweep))) | (with_reducible (show wpAny _ _ (callWith _ (Value.ref _) _ _ _) _ _ _; k_here; k_dflt (first | (refine' callWith_K ?ok1 ?ok2 ?_; (case ok1 => k_asm); (case ok2 => k_is); k_whole) | (refine' callWith_K0 ?ok1 ?ok2 ?_; (case ok1 => k_in); (case ok2 => k_is); k_whole)))) | (with_reducible (show wpAny _ _ (eval (PySem.Expr.Name _ _) (compEnvC _ _ _ _)) _ _ _; k_here; k_dflt (first | (refine' ce_local ?oN ?om ?on ?ov ?_ ?oa ?ob; (case oa => rfl); (case ob => rfl); (case on => assumption); (case oN => k_asm); (case om => k_mem); (case ov => assumption); k_whole) | (refine' ce_cell ?oN ?oc ?om ?od ?_ ?oa ?ob; (case oa => rfl); (case ob => rfl); (case oN => k_asm); (case oc => rfl); (case om => k_mem); (case od => k_asm); k_whole) | (refine' ce_K ?oF ?oX ?oT ?oe ?_ ?og ?oa ?ob; (case og => rfl); (case oa => rfl); (case ob => rfl); (case oF => k_asm); (case oX => k_asm); (case oT => k_asm); (case oe => k_is); k_whole) | (refine' ce_B ?oF ?oX ?oT ?oe ?ov ?on ?_ ?og ?ogb ?oa ?ob; (case og => rfl); (case ogb => rfl); (case oa => rfl); (case ob => rfl); (case oF => k_asm); (case oX => k_asm); (case oT => k_asm); (case oe => k_is); (case ov => boot_fast); (case on => decide); k_whole)))) | (with_reducible (show wpAny _ _ (eval (PySem.Expr.Name _ _) _) _ _ _; k_here; k_dflt (first | (refine' nameX_F ?oN ?oc ?om ?od ?_ ?oa ?ob; (case oa => rfl); (case ob => rfl); (case oN => k_asm); (case oc => rfl); (case om => k_mem); (case od => k_asm); k_whole) | (refine' nameX_C ?oN ?oc ?om ?od ?_ ?oa ?ob; (case oa => rfl); (case ob => rfl); (case oN => k_asm); (case oc => rfl); (case om => k_mem); (case od => k_asm); k_whole)))) | (with_reducible (show wpAny _ _ (newList _) _ _ _; k_here; k_dflt (refine' newList_K ?ok1 ?ok2 ?_ ?ok3; (case ok1 => k_asm); (case ok2 => k_asm); (case ok3 => exact sz_small rfl); k_whole); intro _ _ _ _ lz; (try k_lt lz); (try (revert lz; intro _)); (try k_sweep))) | (with_reducible (show wpAny _ _ (newTuple _) _ _ _; k_here; k_dflt (refine' kup_newTuple ?oF ?oN ?_ ?oz; (case oF => k_asm); (case oN => k_asm); (case oz => exact sz_small rfl); k_whole); intro _ _ _ _ lz; (try k_lt lz); (try (revert lz; intro _)); (try k_sweep))) | (with_reducible (show wpAny _ _ (subscriptTail _ _ (Value.ref _) (Value.int 0 _)) _ _ _; k_here; k_dflt (refine' sub_head ?ok1 ?ok2 ?_ ?ok7 ?ok8; (case ok1 => k_asm); (case ok2 => k_mem); (case ok7 => with_unfolding_all rfl); (case ok8 => (intro _; with_unfolding_all rfl)); k_whole))) | (with_reducible (show wpAny _ _ (subscriptTail _ _ (Value.ref _) (Value.int _ _)) _ _ _; k_here; k_dflt (refine' sub_ints ?ok1 ?ok2 ?ok3 ?ok4 ?ok5 ?ok6 ?_ ?ok7 ?ok8; (case ok1 => k_asm); (case ok2 => k_mem); (case ok3 => assumption); (case ok4 => first | exact le_pred (by assumption) (by assumption) | omega); (case ok5 => first | (simp only [stepsP_length]; first | exact lt_pred (by assumption) (by assumption) (by assumption) | omega) | (simp only [List.length_cons, List.length_nil]; omega)); (case ok6 => first | (simp only [stepsP_length]; first | assumption | omega) | (simp only [List.length_cons, List.length_nil]; omega)); (case ok7 => with_unfolding_all rfl); (case ok8 => (intro _; with_unfolding_all rfl)); k_whole); intro _ _ _)) | (with_reducible (show wpAny _ _ (subscriptTail _ _ (Value.ref _) (Value.int _ _)) _ _ _; k_here; k_dflt (refine' sub_refs ?ok1 ?ok2 ?ok3 ?ok4 ?ok5 ?_ ?ok6 ?ok7; (case ok1 => k_asm); (case ok2 => k_mem); (case ok3 => first | assumption | exact le_pred (by assumption) (by assumption) | omega); (case ok4 => first | assumption | exact lt_pred (by assumption) (by assumption) (by assumption) | omega); (case ok5 => first | assumption | omega); (case ok6 => with_unfolding_all rfl); (case ok7 => (intro _; with_unfolding_all rfl)); k_whole); intro _ ha'; (try simp only [Int.toNat_natCast] at ha'); revert ha'; intro _)) | walk1 | (dsimp only; walk1)))
      rename _ = -q8 * _ => hv2
      rename (stepsP B)[_]? = some _ => hx
      rename _ = ((i + 1 : Nat) : Int) - 1 => hv1
      rw [hv1, toNat_pred (n := i + 1) (Nat.succ_pos i)] at hx
      have hx9 := stepsP_get (Nat.succ_pos i) hx
      subst hx9
      subst hv2
      rename News _ _ _ _ => lN6
      rename ∀ p, p ∈ news8 → Prod.fst p < _ => hltf
      rename_i f _ _
      refine' my_append (vs := las.map Value.ref) ?q1 lN6 ?q2 ?q3 ?_
      case q1 => k_asm
      case q2 => exact List.mem_cons_of_mem _ m48
      case q3 => rw [List.length_map]; omega
      intro h9 led9 F9 N9 mL9 k9 _
      have e9 : las.map Value.ref ++ [Value.ref f] = (las ++ [f]).map Value.ref := by simp
      rw [e9] at mL9
      have hI9 : (I, o) ∈ led9 := k9 _ (List.mem_cons_of_mem _ hI8) (Ne.symm (hneI _ m4))
      repeat' (first | (k_unfold; (try dsimp only); repeat (first | clear ek | clear qk)) | ((fail_if_success (with_reducible show wpAny _ _ (exec (Stmt.While _ _ _ _) _) _ _ _)); (fail_if_success (with_reducible show wpAny _ _ (exec (Stmt.For _ _ _ _ _) _) _ _ _)); (fail_if_success (with_reducible show wpAny _ _ (eval (Expr.ListComp _ _ _ _) _) _ _ _)); (fail_if_success (with_reducible show wpAny _ _ (exec (Stmt.Assign _ (Expr.ListComp _ _ _ _) _) _) _ _ _)); (fail_if_success (with_reducible show wpAny _ _ (pyIter _) _ _ _)); (fail_if_success (with_reducible show wpAny _ _ (call (Value.ref _) _) _ _ _)); (fail_if_success (with_reducible show wpAny _ _ (setItem _ _ _) _ _ _)); (fail_if_success (with_reducible show wpAny _ _ (call (Value.builtin "list.append") _) _ _ _)); (fail_if_success (with_reducible show wpAny _ _ (call (Value.builtin "sorted") _) _ _ _)); (fail_if_success (with_reducible show wpAny _ _ (call (Value.type "list") _) _ _ _)); (fail_if_success (with_reducible show wpAny _ _ (compareOp _ (Value.ref _) (Value.ref _)) _ _ _)); (fail_if_success (with_reducible show wpAny _ _ (binaryOp _ (Value.ref _) (Value.ref _)) _ _ _)); first | ((first | (with_reducible show wpAny _ _ (exec _ _) _ _ _) | ((with_reducible show wpAny _ _ (eval _ _) _ _ _); (fail_if_success (with_reducible show wpAny _ _ (eval (PySem.Expr.Name _ _) _) _ _ _)); (fail_if_success (with_reducible show wpAny _ _ (eval (PySem.Expr.Constant _ _ _) _) _ _ _)); skip)); k_fold) | (with_reducible (show wpAny _ _ (binaryOp Operator.Add (Value.int _ _) (Value.int _ _)) _ _ _; k_here; (refine my_add ?_); intro _ _ _)) | (with_reducible (show wpAny _ _ (binaryOp Operator.Mult (Value.int _ _) (Value.int _ _)) _ _ _; k_here; (refine my_mul (by first | (left; decide) | (right; decide) | (left; assumption) | (right; assumption) | omega) ?_); intro _ _ _)) | (with_reducible (show wpAny _ _ (binaryOp Operator.Sub (Value.int _ _) (Value.int _ _)) _ _ _; k_here; (refine my_sub ?_); intro _ _ _)) | (with_reducible (show wpAny _ _ (call (Value.builtin "len") [Value.ref _]) _ _ _; k_here; k_dflt (refine' len_refs ?ok1 ?ok2 ?ok3 ?_; (case ok1 => k_asm); (case ok2 => k_mem); (case ok3 => first | assumption | omega); k_whole); intro _ _)) | (with_reducible (show wpAny _ _ (call (Value.type "range") _) _ _ _; k_here; k_dflt (first | (refine' my_range1 ?ok1 ?ok2 ?_; (case ok1 => k_asm); (case ok2 => k_asm); k_whole; intro _ _ _ _ _ _ _ _) | (refine' my_range2 ?ok1 ?ok2 ?_; (case ok1 => k_asm); (case ok2 => k_asm); k_whole; intro _ _ _ _ _ _ _)); (try k_sweep))) | (with_reducible (show wpAny _ _ (callWith _ (Value.ref _) _ _ _) _ _ _; k_here; k_dflt (first | (refine' callWith_K ?ok1 ?ok2 ?_; (case ok1 => k_asm); (case ok2 => k_is); k_whole) | (refine' callWith_K0 ?ok1 ?ok2 ?_; (case ok1 => k_in); (case ok2 => k_is); k_whole)))) | (with_reducible (show wpAny _ _ (eval (PySem.Expr.Name _ _) (compEnvC _ _ _ _)) _ _ _; k_here; k_dflt (first | (refine' ce_local ?oN ?om ?on ?ov ?_ ?oa ?ob; (case oa => rfl); (case ob => rfl); (case on => assumption); (case oN => k_asm); (case om => k_mem); (case ov => assumption); k_whole) | (refine' ce_cell ?oN ?oc ?om ?od ?_ ?oa ?ob; (case oa => rfl); (case ob => rfl); (case oN => k_asm); (case oc => rfl); (case om => k_mem); (case od => k_asm); k_whole) | (refine' ce_K ?oF ?oX ?oT ?oe ?_ ?og ?oa ?ob; (case og => rfl); (case oa => rfl); (case ob => rfl); (case oF => k_asm); (case oX => k_asm); (case oT => k_asm); (case oe => k_is); k_whole) | (refine' ce_B ?oF ?oX ?oT ?oe ?ov ?on ?_ ?og ?ogb ?oa ?ob; (case og => rfl); (case ogb => rfl); (case oa => rfl); (case ob => rfl); (case oF => k_asm); (case oX => k_asm); (case oT => k_asm); (case oe => k_is); (case ov => boot_fast); (case on => decide); k_whole)))) | (with_reducible (show wpAny _ _ (eval (PySem.Expr.Name _ _) _) _ _ _; k_here; k_dflt (first | (refine' nameX_F ?oN ?oc ?om ?od ?_ ?oa ?ob; (case oa => rfl); (case ob => rfl); (case oN => k_asm); (case oc => rfl); (case om => k_mem); (case od => k_asm); k_whole) | (refine' nameX_C ?oN ?oc ?om ?od ?_ ?oa ?ob; (case oa => rfl); (case ob => rfl); (case oN => k_asm); (case oc => rfl); (case om => k_mem); (case od => k_asm); k_whole)))) | (with_reducible (show wpAny _ _ (newList _) _ _ _; k_here; k_dflt (refine' newList_K ?ok1 ?ok2 ?_ ?ok3; (case ok1 => k_asm); (case ok2 => k_asm); (case ok3 => exact sz_small rfl); k_whole); intro _ _ _ _ lz; (try k_lt lz); (try (revert lz; intro _)); (try k_sweep))) | (with_reducible (show wpAny _ _ (newTuple _) _ _ _; k_here; k_dflt (refine' kup_newTuple ?oF ?oN ?_ ?oz; (case oF => k_asm); (case oN => k_asm); (case oz => exact sz_small rfl); k_whole); intro _ _ _ _ lz; (try k_lt lz); (try (revert lz; intro _)); (try k_sweep))) | (with_reducible (show wpAny _ _ (subscriptTail _ _ (Value.ref _) (Value.int 0 _)) _ _ _; k_here; k_dflt (refine' sub_head ?ok1 ?ok2 ?_ ?ok7 ?ok8; (case ok1 => k_asm); (case ok2 => k_mem); (case ok7 => with_unfolding_all rfl); (case ok8 => (intro _; with_unfolding_all rfl)); k_whole))) | (with_reducible (show wpAny _ _ (subscriptTail _ _ (Value.ref _) (Value.int _ _)) _ _ _; k_here; k_dflt (refine' sub_ints ?ok1 ?ok2 ?ok3 ?ok4 ?ok5 ?ok6 ?_ ?ok7 ?ok8; (case ok1 => k_asm); (case ok2 => k_mem); (case ok3 => assumption); (case ok4 => first | exact le_pred (by assumption) (by assumption) | omega); (case ok5 => first | (simp only [stepsP_length]; first | exact lt_pred (by assumption) (by assumption) (by assumption) | omega) | (simp only [List.length_cons, List.length_nil]; omega)); (case ok6 => first | (simp only [stepsP_length]; first | assumption | omega) | (simp only [List.length_cons, List.length_nil]; omega)); (case ok7 => with_unfolding_all rfl); (case ok8 => (intro _; with_unfolding_all rfl)); k_whole); intro _ _ _)) | (with_reducible (show wpAny _ _ (subscriptTail _ _ (Value.ref _) (Value.int _ _)) _ _ _; k_here; k_dflt (refine' sub_refs ?ok1 ?ok2 ?ok3 ?ok4 ?ok5 ?_ ?ok6 ?ok7; (case ok1 => k_asm); (case ok2 => k_mem); (case ok3 => first | assumption | exact le_pred (by assumption) (by assumption) | omega); (case ok4 => first | assumption | exact lt_pred (by assumption) (by assumption) (by assumption) | omega); (case ok5 => first | assumption | omega); (case ok6 => with_unfolding_all rfl); (case ok7 => (intro _; with_unfolding_all rfl)); k_whole); intro _ ha'; (try simp only [Int.toNat_natCast] at ha'); revert ha'; intro _)) | walk1 | (dsimp only; walk1)))
      refine forS_end (las ++ [f]) (offA I led9) (by assumption) N9 hI9 (fun p hp => mem_offA.mp hp) (by kst_all) (by ksw_same)
        (LI.next hT0 (news_sub N5 fun q hq => List.mem_cons_of_mem _ hq) hneI N9 hI9 (plain_it hso) (fun p hp hs hn => k9 p (List.mem_cons_of_mem _ (k8 p hp hs)) hn) (fun p hp hs => hltf p (k8 p hp hs)) (Ne.symm (Nat.ne_of_lt (hltf _ hI8)))
          (by rw [hhi]; exact k9 _ List.mem_cons_self (Ne.symm (Nat.ne_of_lt (hltf _ m48)))) mL9 (Tabs.updS lN6 (hkept8.1.sub fun q hq => List.mem_cons_of_mem _ hq) (List.mem_cons_of_mem _ m48) (list_nf _ _) k9))
    case done =>
      rintro las u led5 hp tkd hT F5 N5
      rw [toNat_succ_pred B] at hT
      dsimp only [kstB] at F5
      (try k_fold)
      have hT0 := hT
      obtain ⟨l1', nd, z, ⟨p1, m1, e1⟩, ⟨p2, m2, e2⟩, ⟨svs, e3, m3, i3⟩, ⟨e4, m4⟩, ⟨e5, m5⟩, it, tb, kp, ds⟩ := hT
      repeat' (first | (k_unfold; (try dsimp only); repeat (first | clear ek | clear qk)) | ((fail_if_success (with_reducible show wpAny _ _ (exec (Stmt.While _ _ _ _) _) _ _ _)); (fail_if_success (with_reducible show wpAny _ _ (exec (Stmt.For _ _ _ _ _) _) _ _ _)); (fail_if_success (with_reducible show wpAny _ _ (eval (Expr.ListComp _ _ _ _) _) _ _ _)); (fail_if_success (with_reducible show wpAny _ _ (exec (Stmt.Assign _ (Expr.ListComp _ _ _ _) _) _) _ _ _)); (fail_if_success (with_reducible show wpAny _ _ (pyIter _) _ _ _)); (fail_if_success (with_reducible show wpAny _ _ (call (Value.ref _) _) _ _ _)); (fail_if_success (with_reducible show wpAny _ _ (setItem _ _ _) _ _ _)); (fail_if_success (with_reducible show wpAny _ _ (call (Value.builtin "list.append") _) _ _ _)); (fail_if_success (with_reducible show wpAny _ _ (call (Value.builtin "sorted") _) _ _ _)); (fail_if_success (with_reducible show wpAny _ _ (call (Value.type "list") _) _ _ _)); (fail_if_success (with_reducible show wpAny _ _ (compareOp _ (Value.ref _) (Value.ref _)) _ _ _)); (fail_if_success (with_reducible show wpAny _ _ (binaryOp _ (Value.ref _) (Value.ref _)) _ _ _)); first | ((first | (with_reducible show wpAny _ _ (exec _ _) _ _ _) | ((with_reducible show wpAny _ _ (eval _ _) _ _ _); (fail_if_success (with_reducible show wpAny _ _ (eval (PySem.Expr.Name _ _) _) _ _ _)); (fail_if_success (with_reducible show wpAny _ _ (eval (PySem.Expr.Constant _ _ _) _) _ _ _)); skip)); k_fold) | (with_reducible (show wpAny _ _ (binaryOp Operator.Add (Value.int _ _) (Value.int _ _)) _ _ _; k_here; (refine my_add ?_); intro _ _ _)) | (with_reducible (show wpAny _ _ (binaryOp Operator.Mult (Value.int _ _) (Value.int _ _)) _ _ _; k_here; (refine my_mul (by first | (left; decide) | (right; decide) | (left; assumption) | (right; assumption) | omega) ?_); intro _ _ _)) | (with_reducible (show wpAny _ _ (binaryOp Operator.Sub (Value.int _ _) (Value.int _ _)) _ _ _; k_here; (refine my_sub ?_); intro _ _ _)) | (with_reducible (show wpAny _ _ (call (Value.builtin "len") [Value.ref _]) _ _ _; k_here; k_dflt (refine' len_refs ?ok1 ?ok2 ?ok3 ?_; (case ok1 => k_asm); (case ok2 => k_mem); (case ok3 => first | assumption | omega); k_whole); intro _ _)) | (with_reducible (show wpAny _ _ (call (Value.type "range") _) _ _ _; k_here; k_dflt (first | (refine' my_range1 ?ok1 ?ok2 ?_; (case ok1 => k_asm); (case ok2 => k_asm); k_whole; intro _ _ _ _ _ _ _ _) | (refine' my_range2 ?ok1 ?ok2 ?_; (case ok1 => k_asm); (case ok2 => k_asm); k_whole; intro _ _ _ _ _ _ _)); (try k_sweep))) | (with_reducible (show wpAny _ _ (callWith _ (Value.ref _) _ _ _) _ _ _; k_here; k_dflt (first | (refine' callWith_K ?ok1 ?ok2 ?_; (case ok1 => k_asm); (case ok2 => k_is); k_whole) | (refine' callWith_K0 ?ok1 ?ok2 ?_; (case ok1 => k_in); (case ok2 => k_is); k_whole)))) | (with_reducible (show wpAny _ _ (eval (PySem.Expr.Name _ _) (compEnvC _ _ _ _)) _ _ _; k_here; k_dflt (first | (refine' ce_local ?oN ?om ?on ?ov ?_ ?oa ?ob; (case oa => rfl); (case ob => rfl); (case on => assumption); (case oN => k_asm); (case om => k_mem); (case ov => assumption); k_whole) | (refine' ce_cell ?oN ?oc ?om ?od ?_ ?oa ?ob; (case oa => rfl); (case ob => rfl); (case oN => k_asm); (case oc => rfl); (case om => k_mem); (case od => k_asm); k_whole) | (refine' ce_K ?oF ?oX ?oT ?oe ?_ ?og ?oa ?ob; (case og => rfl); (case oa => rfl); (case ob => rfl); (case oF => k_asm); (case oX => k_asm); (case oT => k_asm); (case oe => k_is); k_whole) | (refine' ce_B ?oF ?oX ?oT ?oe ?ov ?on ?_ ?og ?ogb ?oa ?ob; (case og => rfl); (case ogb => rfl); (case oa => rfl); (case ob => rfl); (case oF => k_asm); (case oX => k_asm); (case oT => k_asm); (case oe => k_is); (case ov => boot_fast); (case on => decide); k_whole)))) | (with_reducible (show wpAny _ _ (eval (PySem.Expr.Name _ _) _) _ _ _; k_here; k_dflt (first | (refine' nameX_F ?oN ?oc ?om ?od ?_ ?oa ?ob; (case oa => rfl); (case ob => rfl); (case oN => k_asm); (case oc => rfl); (case om => k_mem); (case od => k_asm); k_whole) | (refine' nameX_C ?oN ?oc ?om ?od ?_ ?oa ?ob; (case oa => rfl); (case ob => rfl); (case oN => k_asm); (case oc => rfl); (case om => k_mem); (case od => k_asm); k_whole)))) | (with_reducible (show wpAny _ _ (newList _) _ _ _; k_here; k_dflt (refine' newList_K ?ok1 ?ok2 ?_ ?ok3; (case ok1 => k_asm); (case ok2 => k_asm); (case ok3 => exact sz_small rfl); k_whole); intro _ _ _ _ lz; (try k_lt lz); (try (revert lz; intro _)); (try k_sweep))) | (with_reducible (show wpAny _ _ (newTuple _) _ _ _; k_here; k_dflt (refine' kup_newTuple ?oF ?oN ?_ ?oz; (case oF => k_asm); (case oN => k_asm); (case oz => exact sz_small rfl); k_whole); intro _ _ _ _ lz; (try k_lt lz); (try (revert lz; intro _)); (try k_sweep))) | (with_reducible (show wpAny _ _ (subscriptTail _ _ (Value.ref _) (Value.int 0 _)) _ _ _; k_here; k_dflt (refine' sub_head ?ok1 ?ok2 ?_ ?ok7 ?ok8; (case ok1 => k_asm); (case ok2 => k_mem); (case ok7 => with_unfolding_all rfl); (case ok8 => (intro _; with_unfolding_all rfl)); k_whole))) | (with_reducible (show wpAny _ _ (subscriptTail _ _ (Value.ref _) (Value.int _ _)) _ _ _; k_here; k_dflt (refine' sub_ints ?ok1 ?ok2 ?ok3 ?ok4 ?ok5 ?ok6 ?_ ?ok7 ?ok8; (case ok1 => k_asm); (case ok2 => k_mem); (case ok3 => assumption); (case ok4 => first | exact le_pred (by assumption) (by assumption) | omega); (case ok5 => first | (simp only [stepsP_length]; first | exact lt_pred (by assumption) (by assumption) (by assumption) | omega) | (simp only [List.length_cons, List.length_nil]; omega)); (case ok6 => first | (simp only [stepsP_length]; first | assumption | omega) | (simp only [List.length_cons, List.length_nil]; omega)); (case ok7 => with_unfolding_all rfl); (case ok8 => (intro _; with_unfolding_all rfl)); k_whole); intro _ _ _)) | (with_reducible (show wpAny _ _ (subscriptTail _ _ (Value.ref _) (Value.int _ _)) _ _ _; k_here; k_dflt (refine' sub_refs ?ok1 ?ok2 ?ok3 ?ok4 ?ok5 ?_ ?ok6 ?ok7; (case ok1 => k_asm); (case ok2 => k_mem); (case ok3 => first | assumption | exact le_pred (by assumption) (by assumption) | omega); (case ok4 => first | assumption | exact lt_pred (by assumption) (by assumption) (by assumption) | omega); (case ok5 => first | assumption | omega); (case ok6 => with_unfolding_all rfl); (case ok7 => (intro _; with_unfolding_all rfl)); k_whole); intro _ ha'; (try simp only [Int.toNat_natCast] at ha'); revert ha'; intro _)) | walk1 | (dsimp only; walk1)))
      refine' list_copyK (items := (las.map Value.ref).toArray) ?q1 N5 ?q3 ?_ ?q4
      case q1 => k_asm
      case q3 => exact ⟨_, (N5 _ m4).1, rfl, e4, rfl⟩
      case q4 => rw [List.size_toArray, List.length_map, sizeLine_eq]; omega
      intro He c6 h6 F6 N6 hHe
      repeat' (first | (k_unfold; (try dsimp only); repeat (first | clear ek | clear qk)) | ((fail_if_success (with_reducible show wpAny _ _ (exec (Stmt.While _ _ _ _) _) _ _ _)); (fail_if_success (with_reducible show wpAny _ _ (exec (Stmt.For _ _ _ _ _) _) _ _ _)); (fail_if_success (with_reducible show wpAny _ _ (eval (Expr.ListComp _ _ _ _) _) _ _ _)); (fail_if_success (with_reducible show wpAny _ _ (exec (Stmt.Assign _ (Expr.ListComp _ _ _ _) _) _) _ _ _)); (fail_if_success (with_reducible show wpAny _ _ (pyIter _) _ _ _)); (fail_if_success (with_reducible show wpAny _ _ (call (Value.ref _) _) _ _ _)); (fail_if_success (with_reducible show wpAny _ _ (setItem _ _ _) _ _ _)); (fail_if_success (with_reducible show wpAny _ _ (call (Value.builtin "list.append") _) _ _ _)); (fail_if_success (with_reducible show wpAny _ _ (call (Value.builtin "sorted") _) _ _ _)); (fail_if_success (with_reducible show wpAny _ _ (call (Value.type "list") _) _ _ _)); (fail_if_success (with_reducible show wpAny _ _ (compareOp _ (Value.ref _) (Value.ref _)) _ _ _)); (fail_if_success (with_reducible show wpAny _ _ (binaryOp _ (Value.ref _) (Value.ref _)) _ _ _)); first | ((first | (with_reducible show wpAny _ _ (exec _ _) _ _ _) | ((with_reducible show wpAny _ _ (eval _ _) _ _ _); (fail_if_success (with_reducible show wpAny _ _ (eval (PySem.Expr.Name _ _) _) _ _ _)); (fail_if_success (with_reducible show wpAny _ _ (eval (PySem.Expr.Constant _ _ _) _) _ _ _)); skip)); k_fold) | (with_reducible (show wpAny _ _ (binaryOp Operator.Add (Value.int _ _) (Value.int _ _)) _ _ _; k_here; (refine my_add ?_); intro _ _ _)) | (with_reducible (show wpAny _ _ (binaryOp Operator.Mult (Value.int _ _) (Value.int _ _)) _ _ _; k_here; (refine my_mul (by first | (left; decide) | (right; decide) | (left; assumption) | (right; assumption) | omega) ?_); intro _ _ _)) | (with_reducible (show wpAny _ _ (binaryOp Operator.Sub (Value.int _ _) (Value.int _ _)) _ _ _; k_here; (refine my_sub ?_); intro _ _ _)) | (with_reducible (show wpAny _ _ (call (Value.builtin "len") [Value.ref _]) _ _ _; k_here; k_dflt (refine' len_refs ?ok1 ?ok2 ?ok3 ?_; (case ok1 => k_asm); (case ok2 => k_mem); (case ok3 => first | assumption | omega); k_whole); intro _ _)) | (with_reducible (show wpAny _ _ (call (Value.type "range") _) _ _ _; k_here; k_dflt (first | (refine' my_range1 ?ok1 ?ok2 ?_; (case ok1 => k_asm); (case ok2 => k_asm); k_whole; intro _ _ _ _ _ _ _ _) | (refine' my_range2 ?ok1 ?ok2 ?_; (case ok1 => k_asm); (case ok2 => k_asm); k_whole; intro _ _ _ _ _ _ _)); (try k_sweep))) | (with_reducible (show wpAny _ _ (callWith _ (Value.ref _) _ _ _) _ _ _; k_here; k_dflt (first | (refine' callWith_K ?ok1 ?ok2 ?_; (case ok1 => k_asm); (case ok2 => k_is); k_whole) | (refine' callWith_K0 ?ok1 ?ok2 ?_; (case ok1 => k_in); (case ok2 => k_is); k_whole)))) | (with_reducible (show wpAny _ _ (eval (PySem.Expr.Name _ _) (compEnvC _ _ _ _)) _ _ _; k_here; k_dflt (first | (refine' ce_local ?oN ?om ?on ?ov ?_ ?oa ?ob; (case oa => rfl); (case ob => rfl); (case on => assumption); (case oN => k_asm); (case om => k_mem); (case ov => assumption); k_whole) | (refine' ce_cell ?oN ?oc ?om ?od ?_ ?oa ?ob; (case oa => rfl); (case ob => rfl); (case oN => k_asm); (case oc => rfl); (case om => k_mem); (case od => k_asm); k_whole) | (refine' ce_K ?oF ?oX ?oT ?oe ?_ ?og ?oa ?ob; (case og => rfl); (case oa => rfl); (case ob => rfl); (case oF => k_asm); (case oX => k_asm); (case oT => k_asm); (case oe => k_is); k_whole) | (refine' ce_B ?oF ?oX ?oT ?oe ?ov ?on ?_ ?og ?ogb ?oa ?ob; (case og => rfl); (case ogb => rfl); (case oa => rfl); (case ob => rfl); (case oF => k_asm); (case oX => k_asm); (case oT => k_asm); (case oe => k_is); (case ov => boot_fast); (case on => decide); k_whole)))) | (with_reducible (show wpAny _ _ (eval (PySem.Expr.Name _ _) _) _ _ _; k_here; k_dflt (first | (refine' nameX_F ?oN ?oc ?om ?od ?_ ?oa ?ob; (case oa => rfl); (case ob => rfl); (case oN => k_asm); (case oc => rfl); (case om => k_mem); (case od => k_asm); k_whole) | (refine' nameX_C ?oN ?oc ?om ?od ?_ ?oa ?ob; (case oa => rfl); (case ob => rfl); (case oN => k_asm); (case oc => rfl); (case om => k_mem); (case od => k_asm); k_whole)))) | (with_reducible (show wpAny _ _ (newList _) _ _ _; k_here; k_dflt (refine' newList_K ?ok1 ?ok2 ?_ ?ok3; (case ok1 => k_asm); (case ok2 => k_asm); (case ok3 => exact sz_small rfl); k_whole); intro _ _ _ _ lz; (try k_lt lz); (try (revert lz; intro _)); (try k_sweep))) | (with_reducible (show wpAny _ _ (newTuple _) _ _ _; k_here; k_dflt (refine' kup_newTuple ?oF ?oN ?_ ?oz; (case oF => k_asm); (case oN => k_asm); (case oz => exact sz_small rfl); k_whole); intro _ _ _ _ lz; (try k_lt lz); (try (revert lz; intro _)); (try k_sweep))) | (with_reducible (show wpAny _ _ (subscriptTail _ _ (Value.ref _) (Value.int 0 _)) _ _ _; k_here; k_dflt (refine' sub_head ?ok1 ?ok2 ?_ ?ok7 ?ok8; (case ok1 => k_asm); (case ok2 => k_mem); (case ok7 => with_unfolding_all rfl); (case ok8 => (intro _; with_unfolding_all rfl)); k_whole))) | (with_reducible (show wpAny _ _ (subscriptTail _ _ (Value.ref _) (Value.int _ _)) _ _ _; k_here; k_dflt (refine' sub_ints ?ok1 ?ok2 ?ok3 ?ok4 ?ok5 ?ok6 ?_ ?ok7 ?ok8; (case ok1 => k_asm); (case ok2 => k_mem); (case ok3 => assumption); (case ok4 => first | exact le_pred (by assumption) (by assumption) | omega); (case ok5 => first | (simp only [stepsP_length]; first | exact lt_pred (by assumption) (by assumption) (by assumption) | omega) | (simp only [List.length_cons, List.length_nil]; omega)); (case ok6 => first | (simp only [stepsP_length]; first | assumption | omega) | (simp only [List.length_cons, List.length_nil]; omega)); (case ok7 => with_unfolding_all rfl); (case ok8 => (intro _; with_unfolding_all rfl)); k_whole); intro _ _ _)) | (with_reducible (show wpAny _ _ (subscriptTail _ _ (Value.ref _) (Value.int _ _)) _ _ _; k_here; k_dflt (refine' sub_refs ?ok1 ?ok2 ?ok3 ?ok4 ?ok5 ?_ ?ok6 ?ok7; (case ok1 => k_asm); (case ok2 => k_mem); (case ok3 => first | assumption | exact le_pred (by assumption) (by assumption) | omega); (case ok4 => first | assumption | exact lt_pred (by assumption) (by assumption) (by assumption) | omega); (case ok5 => first | assumption | omega); (case ok6 => with_unfolding_all rfl); (case ok7 => (intro _; with_unfolding_all rfl)); k_whole); intro _ ha'; (try simp only [Int.toNat_natCast] at ha'); revert ha'; intro _)) | walk1 | (dsimp only; walk1)))
      refine Spec.use (heapify_mem w He las c6 (keyA (his0 B x b) las) (by omega)) (by k_asm) (by k_asm) (by k_asm) (by k_asm) (by k_asm) rfl (by ktr_room) (by ktr_units) ⟨List.mem_cons_self, hT0.keys fun q hq => List.mem_cons_of_mem _ hq⟩ ?_
      rintro r7 news7 h7 tk7 F7 N7 ⟨rfl, m7, k7⟩
      have hN0 := NI.start hT0 N5 hHe (fun q hq => k7 q (List.mem_cons_of_mem _ hq) (Nat.ne_of_lt (hHe q hq))) m7
      repeat' (first | (k_unfold; (try dsimp only); repeat (first | clear ek | clear qk)) | ((fail_if_success (with_reducible show wpAny _ _ (exec (Stmt.While _ _ _ _) _) _ _ _)); (fail_if_success (with_reducible show wpAny _ _ (exec (Stmt.For _ _ _ _ _) _) _ _ _)); (fail_if_success (with_reducible show wpAny _ _ (eval (Expr.ListComp _ _ _ _) _) _ _ _)); (fail_if_success (with_reducible show wpAny _ _ (exec (Stmt.Assign _ (Expr.ListComp _ _ _ _) _) _) _ _ _)); (fail_if_success (with_reducible show wpAny _ _ (pyIter _) _ _ _)); (fail_if_success (with_reducible show wpAny _ _ (call (Value.ref _) _) _ _ _)); (fail_if_success (with_reducible show wpAny _ _ (setItem _ _ _) _ _ _)); (fail_if_success (with_reducible show wpAny _ _ (call (Value.builtin "list.append") _) _ _ _)); (fail_if_success (with_reducible show wpAny _ _ (call (Value.builtin "sorted") _) _ _ _)); (fail_if_success (with_reducible show wpAny _ _ (call (Value.type "list") _) _ _ _)); (fail_if_success (with_reducible show wpAny _ _ (compareOp _ (Value.ref _) (Value.ref _)) _ _ _)); (fail_if_success (with_reducible show wpAny _ _ (binaryOp _ (Value.ref _) (Value.ref _)) _ _ _)); first | ((first | (with_reducible show wpAny _ _ (exec _ _) _ _ _) | ((with_reducible show wpAny _ _ (eval _ _) _ _ _); (fail_if_success (with_reducible show wpAny _ _ (eval (PySem.Expr.Name _ _) _) _ _ _)); (fail_if_success (with_reducible show wpAny _ _ (eval (PySem.Expr.Constant _ _ _) _) _ _ _)); skip)); k_fold) | (with_reducible (show wpAny _ _ (binaryOp Operator.Add (Value.int _ _) (Value.int _ _)) _ _ _; k_here; (refine my_add ?_); intro _ _ _)) | (with_reducible (show wpAny _ _ (binaryOp Operator.Mult (Value.int _ _) (Value.int _ _)) _ _ _; k_here; (refine my_mul (by first | (left; decide) | (right; decide) | (left; assumption) | (right; assumption) | omega) ?_); intro _ _ _)) | (with_reducible (show wpAny _ _ (binaryOp Operator.Sub (Value.int _ _) (Value.int _ _)) _ _ _; k_here; (refine my_sub ?_); intro _ _ _)) | (with_reducible (show wpAny _ _ (call (Value.builtin "len") [Value.ref _]) _ _ _; k_here; k_dflt (refine' len_refs ?ok1 ?ok2 ?ok3 ?_; (case ok1 => k_asm); (case ok2 => k_mem); (case ok3 => first | assumption | omega); k_whole); intro _ _)) | (with_reducible (show wpAny _ _ (call (Value.type "range") _) _ _ _; k_here; k_dflt (first | (refine' my_range1 ?ok1 ?ok2 ?_; (case ok1 => k_asm); (case ok2 => k_asm); k_whole; intro _ _ _ _ _ _ _ _) | (refine' my_range2 ?ok1 ?ok2 ?_; (case ok1 => k_asm); (case ok2 => k_asm); k_whole; intro _ _ _ _ _ _ _)); (try k_sweep))) | (with_reducible (show wpAny _ _ (callWith _ (Value.ref _) _ _ _) _ _ _; k_here; k_dflt (first | (refine' callWith_K ?ok1 ?ok2 ?_; (case ok1 => k_asm); (case ok2 => k_is); k_whole) | (refine' callWith_K0 ?ok1 ?ok2 ?_; (case ok1 => k_in); (case ok2 => k_is); k_whole)))) | (with_reducible (show wpAny _ _ (eval (PySem.Expr.Name _ _) (compEnvC _ _ _ _)) _ _ _; k_here; k_dflt (first | (refine' ce_local ?oN ?om ?on ?ov ?_ ?oa ?ob; (case oa => rfl); (case ob => rfl); (case on => assumption); (case oN => k_asm); (case om => k_mem); (case ov => assumption); k_whole) | (refine' ce_cell ?oN ?oc ?om ?od ?_ ?oa ?ob; (case oa => rfl); (case ob => rfl); (case oN => k_asm); (case oc => rfl); (case om => k_mem); (case od => k_asm); k_whole) | (refine' ce_K ?oF ?oX ?oT ?oe ?_ ?og ?oa ?ob; (case og => rfl); (case oa => rfl); (case ob => rfl); (case oF => k_asm); (case oX => k_asm); (case oT => k_asm); (case oe => k_is); k_whole) | (refine' ce_B ?oF ?oX ?oT ?oe ?ov ?on ?_ ?og ?ogb ?oa ?ob; (case og => rfl); (case ogb => rfl); (case oa => rfl); (case ob => rfl); (case oF => k_asm); (case oX => k_asm); (case oT => k_asm); (case oe => k_is); (case ov => boot_fast); (case on => decide); k_whole)))) | (with_reducible (show wpAny _ _ (eval (PySem.Expr.Name _ _) _) _ _ _; k_here; k_dflt (first | (refine' nameX_F ?oN ?oc ?om ?od ?_ ?oa ?ob; (case oa => rfl); (case ob => rfl); (case oN => k_asm); (case oc => rfl); (case om => k_mem); (case od => k_asm); k_whole) | (refine' nameX_C ?oN ?oc ?om ?od ?_ ?oa ?ob; (case oa => rfl); (case ob => rfl); (case oN => k_asm); (case oc => rfl); (case om => k_mem); (case od => k_asm); k_whole)))) | (with_reducible (show wpAny _ _ (newList _) _ _ _; k_here; k_dflt (refine' newList_K ?ok1 ?ok2 ?_ ?ok3; (case ok1 => k_asm); (case ok2 => k_asm); (case ok3 => exact sz_small rfl); k_whole); intro _ _ _ _ lz; (try k_lt lz); (try (revert lz; intro _)); (try k_sweep))) | (with_reducible (show wpAny _ _ (newTuple _) _ _ _; k_here; k_dflt (refine' kup_newTuple ?oF ?oN ?_ ?oz; (case oF => k_asm); (case oN => k_asm); (case oz => exact sz_small rfl); k_whole); intro _ _ _ _ lz; (try k_lt lz); (try (revert lz; intro _)); (try k_sweep))) | (with_reducible (show wpAny _ _ (subscriptTail _ _ (Value.ref _) (Value.int 0 _)) _ _ _; k_here; k_dflt (refine' sub_head ?ok1 ?ok2 ?_ ?ok7 ?ok8; (case ok1 => k_asm); (case ok2 => k_mem); (case ok7 => with_unfolding_all rfl); (case ok8 => (intro _; with_unfolding_all rfl)); k_whole))) | (with_reducible (show wpAny _ _ (subscriptTail _ _ (Value.ref _) (Value.int _ _)) _ _ _; k_here; k_dflt (refine' sub_ints ?ok1 ?ok2 ?ok3 ?ok4 ?ok5 ?ok6 ?_ ?ok7 ?ok8; (case ok1 => k_asm); (case ok2 => k_mem); (case ok3 => assumption); (case ok4 => first | exact le_pred (by assumption) (by assumption) | omega); (case ok5 => first | (simp only [stepsP_length]; first | exact lt_pred (by assumption) (by assumption) (by assumption) | omega) | (simp only [List.length_cons, List.length_nil]; omega)); (case ok6 => first | (simp only [stepsP_length]; first | assumption | omega) | (simp only [List.length_cons, List.length_nil]; omega)); (case ok7 => with_unfolding_all rfl); (case ok8 => (intro _; with_unfolding_all rfl)); k_whole); intro _ _ _)) | (with_reducible (show wpAny _ _ (subscriptTail _ _ (Value.ref _) (Value.int _ _)) _ _ _; k_here; k_dflt (refine' sub_refs ?ok1 ?ok2 ?ok3 ?ok4 ?ok5 ?_ ?ok6 ?ok7; (case ok1 => k_asm); (case ok2 => k_mem); (case ok3 => first | assumption | exact le_pred (by assumption) (by assumption) | omega); (case ok4 => first | assumption | exact lt_pred (by assumption) (by assumption) (by assumption) | omega); (case ok5 => first | assumption | omega); (case ok6 => with_unfolding_all rfl); (case ok7 => (intro _; with_unfolding_all rfl)); k_whole); intro _ ha'; (try simp only [Int.toNat_natCast] at ha'); revert ha'; intro _)) | walk1 | (dsimp only; walk1)))
      rename Fr _ _ _ _ => lF7
      refine ksw_while (σ := List Int × List Addr × List Nat × List Addr × List (Int × Int) × Led × Nat) (fun c => c.2.2.2.2.2.1) (fun _ => []) (fun _ => True) [Str.ofString "worth", Str.ofString "low", Str.ofString "high", Str.ofString "fresh", Str.ofString "given"]
        (fun c => NI news (L' + 1 + 1) D9 La He No B c.1 c.2.1 c.2.2.1 c.2.2.2.1 c.2.2.2.2.1 c.2.2.2.2.2.1 ∧ c.2.2.2.2.1.length + c.2.2.2.2.2.2 = n ∧ nRun B c.2.2.2.2.2.2 c.1 c.2.2.1 c.2.2.2.2.1 = some (his, hs, acc)) (fun c => c.2.2.2.2.2.2)
        (his0 B x b, las, heapLoop (ltI (his0 B x b)) (B / 2) ((List.range B).map (· + 1)), [], [], news7, n) lF7 N7 trivial ?kk ?kp ?turn
      case kk => kst_all
      case kp => exact ⟨hN0, Nat.zero_add n, hrun⟩
      case turn =>
        rintro ⟨his1, las1, hs1, nas, acc1, led1, k⟩ u h tk - ⟨hT, hcnt, hrun1⟩ F1 N1
        dsimp only at hT hcnt hrun1 N1
        dsimp only [kstB] at F1
        clear hT0 it kp
        (try k_fold)
        have hT0 := hT
        obtain ⟨l1', l2', nd', z', hl', hm', ⟨p2', m2', d2'⟩, ⟨svs', e3', m3', i3'⟩, ⟨e4', m4'⟩, ⟨e5', m5'⟩, ⟨e6', m6'⟩, pr', it', tb', kp', ds'⟩ := hT
        have hnl : nas.length = acc1.length := pr'.length
        obtain ⟨low, rest, rfl⟩ : ∃ low rest, hs1 = low :: rest := by
          cases hs1 with
          | nil => exact absurd hl' (by simp; exact Nat.ne_of_lt hB1)
          | cons a r => exact ⟨a, r, rfl⟩
        have hlow := hm' low (.head _)
        obtain ⟨s1, s2, s3, e7, mI⟩ := it' low hlow.1 hlow.2
        have hI3 := item3_ints (his1.getD (low - 1) 0) low s1 s2 s3
        obtain ⟨ras, hras⟩ : ∃ ras, ras = rest.map (adr las1) := ⟨_, rfl⟩
        have hrl : ras.length + 1 = B := by rw [hras, List.length_map]; simpa using hl'
        rw [List.map_cons, ← hras] at m5'
        obtain ⟨g, hg⟩ : ∃ g, g = adr las1 low := ⟨_, rfl⟩
        rw [← hg] at m5' mI
        obtain ⟨hh, hhe⟩ : ∃ hh, hh = his1.getD (low - 1) 0 := ⟨_, rfl⟩
        rw [← hhe] at mI hI3
        have hnz : nas.length < 1000 := lt_of_cnt hcnt hnl hn
        have hBz : B < 1000 := lt1000 rfl hB
        have hz1 : las1.length < 1000 := lt1000 l1' hB
        have hrz : ras.length + 1 < 1000 := lt1000 hrl hB
        have hlow1 : 1 ≤ low := hlow.1
        have hlow2 : low ≤ B := hlow.2
        have hlow3 : low ≤ las1.length := Nat.le_trans hlow.2 (Nat.le_of_eq l1'.symm)
        repeat' (first | (k_unfold; (try dsimp only); repeat (first | clear ek | clear qk)) | ((fail_if_success (with_reducible show wpAny _ _ (exec (Stmt.While _ _ _ _) _) _ _ _)); (fail_if_success (with_reducible show wpAny _ _ (exec (Stmt.For _ _ _ _ _) _) _ _ _)); (fail_if_success (with_reducible show wpAny _ _ (eval (Expr.ListComp _ _ _ _) _) _ _ _)); (fail_if_success (with_reducible show wpAny _ _ (exec (Stmt.Assign _ (Expr.ListComp _ _ _ _) _) _) _ _ _)); (fail_if_success (with_reducible show wpAny _ _ (pyIter _) _ _ _)); (fail_if_success (with_reducible show wpAny _ _ (call (Value.ref _) _) _ _ _)); (fail_if_success (with_reducible show wpAny _ _ (setItem _ _ _) _ _ _)); (fail_if_success (with_reducible show wpAny _ _ (call (Value.builtin "list.append") _) _ _ _)); (fail_if_success (with_reducible show wpAny _ _ (call (Value.builtin "sorted") _) _ _ _)); (fail_if_success (with_reducible show wpAny _ _ (call (Value.type "list") _) _ _ _)); (fail_if_success (with_reducible show wpAny _ _ (compareOp _ (Value.ref _) (Value.ref _)) _ _ _)); (fail_if_success (with_reducible show wpAny _ _ (binaryOp _ (Value.ref _) (Value.ref _)) _ _ _)); first | ((first | (with_reducible show wpAny _ _ (exec _ _) _ _ _) | ((with_reducible show wpAny _ _ (eval _ _) _ _ _); (fail_if_success (with_reducible show wpAny _ _ (eval (PySem.Expr.Name _ _) _) _ _ _)); (fail_if_success (with_reducible show wpAny _ _ (eval (PySem.Expr.Constant _ _ _) _) _ _ _)); skip)); k_fold) | (with_reducible (show wpAny _ _ (binaryOp Operator.Add (Value.int _ _) (Value.int _ _)) _ _ _; k_here; (refine my_add ?_); intro _ _ _)) | (with_reducible (show wpAny _ _ (binaryOp Operator.Mult (Value.int _ _) (Value.int _ _)) _ _ _; k_here; (refine my_mul (by first | (left; decide) | (right; decide) | (left; assumption) | (right; assumption) | omega) ?_); intro _ _ _)) | (with_reducible (show wpAny _ _ (binaryOp Operator.Sub (Value.int _ _) (Value.int _ _)) _ _ _; k_here; (refine my_sub ?_); intro _ _ _)) | (with_reducible (show wpAny _ _ (call (Value.builtin "len") [Value.ref _]) _ _ _; k_here; k_dflt (refine' len_refs ?ok1 ?ok2 ?ok3 ?_; (case ok1 => k_asm); (case ok2 => k_mem); (case ok3 => first | assumption | omega); k_whole); intro _ _)) | (with_reducible (show wpAny _ _ (call (Value.type "range") _) _ _ _; k_here; k_dflt (first | (refine' my_range1 ?ok1 ?ok2 ?_; (case ok1 => k_asm); (case ok2 => k_asm); k_whole; intro _ _ _ _ _ _ _ _) | (refine' my_range2 ?ok1 ?ok2 ?_; (case ok1 => k_asm); (case ok2 => k_asm); k_whole; intro _ _ _ _ _ _ _)); (try k_sweep))) | (with_reducible (show wpAny _ _ (callWith _ (Value.ref _) _ _ _) _ _ _; k_here; k_dflt (first | (refine' callWith_K ?ok1 ?ok2 ?_; (case ok1 => k_asm); (case ok2 => k_is); k_whole) | (refine' callWith_K0 ?ok1 ?ok2 ?_; (case ok1 => k_in); (case ok2 => k_is); k_whole)))) | (with_reducible (show wpAny _ _ (eval (PySem.Expr.Name _ _) (compEnvC _ _ _ _)) _ _ _; k_here; k_dflt (first | (refine' ce_local ?oN ?om ?on ?ov ?_ ?oa ?ob; (case oa => rfl); (case ob => rfl); (case on => assumption); (case oN => k_asm); (case om => k_mem); (case ov => assumption); k_whole) | (refine' ce_cell ?oN ?oc ?om ?od ?_ ?oa ?ob; (case oa => rfl); (case ob => rfl); (case oN => k_asm); (case oc => rfl); (case om => k_mem); (case od => k_asm); k_whole) | (refine' ce_K ?oF ?oX ?oT ?oe ?_ ?og ?oa ?ob; (case og => rfl); (case oa => rfl); (case ob => rfl); (case oF => k_asm); (case oX => k_asm); (case oT => k_asm); (case oe => k_is); k_whole) | (refine' ce_B ?oF ?oX ?oT ?oe ?ov ?on ?_ ?og ?ogb ?oa ?ob; (case og => rfl); (case ogb => rfl); (case oa => rfl); (case ob => rfl); (case oF => k_asm); (case oX => k_asm); (case oT => k_asm); (case oe => k_is); (case ov => boot_fast); (case on => decide); k_whole)))) | (with_reducible (show wpAny _ _ (eval (PySem.Expr.Name _ _) _) _ _ _; k_here; k_dflt (first | (refine' nameX_F ?oN ?oc ?om ?od ?_ ?oa ?ob; (case oa => rfl); (case ob => rfl); (case oN => k_asm); (case oc => rfl); (case om => k_mem); (case od => k_asm); k_whole) | (refine' nameX_C ?oN ?oc ?om ?od ?_ ?oa ?ob; (case oa => rfl); (case ob => rfl); (case oN => k_asm); (case oc => rfl); (case om => k_mem); (case od => k_asm); k_whole)))) | (with_reducible (show wpAny _ _ (newList _) _ _ _; k_here; k_dflt (refine' newList_K ?ok1 ?ok2 ?_ ?ok3; (case ok1 => k_asm); (case ok2 => k_asm); (case ok3 => exact sz_small rfl); k_whole); intro _ _ _ _ lz; (try k_lt lz); (try (revert lz; intro _)); (try k_sweep))) | (with_reducible (show wpAny _ _ (newTuple _) _ _ _; k_here; k_dflt (refine' kup_newTuple ?oF ?oN ?_ ?oz; (case oF => k_asm); (case oN => k_asm); (case oz => exact sz_small rfl); k_whole); intro _ _ _ _ lz; (try k_lt lz); (try (revert lz; intro _)); (try k_sweep))) | (with_reducible (show wpAny _ _ (subscriptTail _ _ (Value.ref _) (Value.int 0 _)) _ _ _; k_here; k_dflt (refine' sub_head ?ok1 ?ok2 ?_ ?ok7 ?ok8; (case ok1 => k_asm); (case ok2 => k_mem); (case ok7 => with_unfolding_all rfl); (case ok8 => (intro _; with_unfolding_all rfl)); k_whole))) | (with_reducible (show wpAny _ _ (subscriptTail _ _ (Value.ref _) (Value.int _ _)) _ _ _; k_here; k_dflt (refine' sub_ints ?ok1 ?ok2 ?ok3 ?ok4 ?ok5 ?ok6 ?_ ?ok7 ?ok8; (case ok1 => k_asm); (case ok2 => k_mem); (case ok3 => assumption); (case ok4 => first | exact le_pred (by assumption) (by assumption) | omega); (case ok5 => first | (simp only [stepsP_length]; first | exact lt_pred (by assumption) (by assumption) (by assumption) | omega) | (simp only [List.length_cons, List.length_nil]; omega)); (case ok6 => first | (simp only [stepsP_length]; first | assumption | omega) | (simp only [List.length_cons, List.length_nil]; omega)); (case ok7 => with_unfolding_all rfl); (case ok8 => (intro _; with_unfolding_all rfl)); k_whole); intro _ _ _)) | (with_reducible (show wpAny _ _ (subscriptTail _ _ (Value.ref _) (Value.int _ _)) _ _ _; k_here; k_dflt (refine' sub_refs ?ok1 ?ok2 ?ok3 ?ok4 ?ok5 ?_ ?ok6 ?ok7; (case ok1 => k_asm); (case ok2 => k_mem); (case ok3 => first | assumption | exact le_pred (by assumption) (by assumption) | omega); (case ok4 => first | assumption | exact lt_pred (by assumption) (by assumption) (by assumption) | omega); (case ok5 => first | assumption | omega); (case ok6 => with_unfolding_all rfl); (case ok7 => (intro _; with_unfolding_all rfl)); k_whole); intro _ ha'; (try simp only [Int.toNat_natCast] at ha'); revert ha'; intro _)) | walk1 | (dsimp only; walk1)))
        · rename (nas.length : Int) < (n : Int) => hlt9
          rename _ = hh + 1 => hv3
          rename _ = hh * _ + _ => hv2
          rename (stepsP B)[_]? = some _ => hx
          rename _ = (low : Int) - 1 => hv1
          rename News _ _ _ _ => lN2
          rename ∀ p, p ∈ led1 → Prod.fst p < _ => hltf
          rw [hv1, toNat_pred hlow.1] at hx
          have hx9 := stepsP_get hlow.1 hx
          subst hx9
          rw [show hh * ((840 / low : Nat) : Int) + ((840 / low : Nat) : Int) = (hh + 1) * ((840 / low : Nat) : Int) from by rw [Int.add_mul, Int.one_mul]] at hv2
          subst hv2
          subst hv3
          rename_i f _ _ _ _ _
          have hN1 : ∃ hq, News g' L' hq led1 := ⟨_, news_sub lN2 fun q hq => List.mem_cons_of_mem _ hq⟩
          have hgH : g ≠ He := by
            obtain ⟨_, lN1⟩ := hN1
            exact news_ne lN1 mI m5' (Ne.symm refs_ne_item)
          obtain ⟨k, rfl⟩ := ex_pred hcnt hnl hlt9
          obtain ⟨hnr, hrun2⟩ := nRun_step hrun1
          refine Spec.use (heapreplace_mem w He f (g :: ras) e5' (keyT his1 las1 low f) (by simp; exact hrz) (by simp)) (by k_asm) (by k_asm) (by k_asm) lN2 (by k_asm) rfl (by ktr_room) (by ktr_units) ⟨List.mem_cons_of_mem _ m5', ?_⟩ ?_
          · have e9 : f :: g :: ras = f :: (low :: rest).map (adr las1) := by rw [List.map_cons, ← hg, ← hras]
            rw [e9]
            refine' hT0.keys hnr (fun p hp hs => hltf p hp) (fun p hp hs => List.mem_cons_of_mem _ hp) ?_
            rotate_right
            · rw [← hhe]
              exact List.mem_cons_self
          rintro r8 news8 h8 tk8 F8 N8 ⟨rfl, m8, k8⟩
          have tb8 := Tabs.updS lN2 (tb'.sub fun q hq => List.mem_cons_of_mem _ hq) (List.mem_cons_of_mem _ m5') (list_nf _ _) k8
          have hfr := hT0.fresh (f := f) (fun p hp _ => hltf p hp)
          have eh := heap_turn (his := his1) l1' l2' nd' z' hlow.1 hlow.2 hnr hfr.1 hfr.2
          rw [List.map_cons, ← hg, ← hras] at eh
          rw [eh] at m8
          have kk8 : ∀ p ∈ led1, p.1 ≠ He → p ∈ news8 := fun p hp hn => k8 p (List.mem_cons_of_mem _ hp) hn
          have mf8 := k8 _ List.mem_cons_self (Ne.symm (Nat.ne_of_lt (hltf _ m5')))
          have m48 := kk8 _ m4' ds'.2.2.2.1
          have m68 := kk8 _ m6' (Ne.symm ds'.2.2.2.2.2)
          have mI8 := kk8 _ mI hgH
          have hgl : las1[low - 1]? = some g := by
            rw [hg, adr_at hlow.1 hlow3]
            exact List.getElem?_eq_getElem _
          rw [show (g :: ras).getD 0 0 = g from rfl]
          repeat' (first | (k_unfold; (try dsimp only); repeat (first | clear ek | clear qk)) | ((fail_if_success (with_reducible show wpAny _ _ (exec (Stmt.While _ _ _ _) _) _ _ _)); (fail_if_success (with_reducible show wpAny _ _ (exec (Stmt.For _ _ _ _ _) _) _ _ _)); (fail_if_success (with_reducible show wpAny _ _ (eval (Expr.ListComp _ _ _ _) _) _ _ _)); (fail_if_success (with_reducible show wpAny _ _ (exec (Stmt.Assign _ (Expr.ListComp _ _ _ _) _) _) _ _ _)); (fail_if_success (with_reducible show wpAny _ _ (pyIter _) _ _ _)); (fail_if_success (with_reducible show wpAny _ _ (call (Value.ref _) _) _ _ _)); (fail_if_success (with_reducible show wpAny _ _ (setItem _ _ _) _ _ _)); (fail_if_success (with_reducible show wpAny _ _ (call (Value.builtin "list.append") _) _ _ _)); (fail_if_success (with_reducible show wpAny _ _ (call (Value.builtin "sorted") _) _ _ _)); (fail_if_success (with_reducible show wpAny _ _ (call (Value.type "list") _) _ _ _)); (fail_if_success (with_reducible show wpAny _ _ (compareOp _ (Value.ref _) (Value.ref _)) _ _ _)); (fail_if_success (with_reducible show wpAny _ _ (binaryOp _ (Value.ref _) (Value.ref _)) _ _ _)); first | ((first | (with_reducible show wpAny _ _ (exec _ _) _ _ _) | ((with_reducible show wpAny _ _ (eval _ _) _ _ _); (fail_if_success (with_reducible show wpAny _ _ (eval (PySem.Expr.Name _ _) _) _ _ _)); (fail_if_success (with_reducible show wpAny _ _ (eval (PySem.Expr.Constant _ _ _) _) _ _ _)); skip)); k_fold) | (with_reducible (show wpAny _ _ (binaryOp Operator.Add (Value.int _ _) (Value.int _ _)) _ _ _; k_here; (refine my_add ?_); intro _ _ _)) | (with_reducible (show wpAny _ _ (binaryOp Operator.Mult (Value.int _ _) (Value.int _ _)) _ _ _; k_here; (refine my_mul (by first | (left; decide) | (right; decide) | (left; assumption) | (right; assumption) | omega) ?_); intro _ _ _)) | (with_reducible (show wpAny _ _ (binaryOp Operator.Sub (Value.int _ _) (Value.int _ _)) _ _ _; k_here; (refine my_sub ?_); intro _ _ _)) | (with_reducible (show wpAny _ _ (call (Value.builtin "len") [Value.ref _]) _ _ _; k_here; k_dflt (refine' len_refs ?ok1 ?ok2 ?ok3 ?_; (case ok1 => k_asm); (case ok2 => k_mem); (case ok3 => first | assumption | omega); k_whole); intro _ _)) | (with_reducible (show wpAny _ _ (call (Value.type "range") _) _ _ _; k_here; k_dflt (first | (refine' my_range1 ?ok1 ?ok2 ?_; (case ok1 => k_asm); (case ok2 => k_asm); k_whole; intro _ _ _ _ _ _ _ _) | (refine' my_range2 ?ok1 ?ok2 ?_; (case ok1 => k_asm); (case ok2 => k_asm); k_whole; intro _ _ _ _ _ _ _)); (try k_sweep))) | (with_reducible (show wpAny _ _ (callWith _ (Value.ref _) _ _ _) _ _ _; k_here; k_dflt (first | (refine' callWith_K ?ok1 ?ok2 ?_; (case ok1 => k_asm); (case ok2 => k_is); k_whole) | (refine' callWith_K0 ?ok1 ?ok2 ?_; (case ok1 => k_in); (case ok2 => k_is); k_whole)))) | (with_reducible (show wpAny _ _ (eval (PySem.Expr.Name _ _) (compEnvC _ _ _ _)) _ _ _; k_here; k_dflt (first | (refine' ce_local ?oN ?om ?on ?ov ?_ ?oa ?ob; (case oa => rfl); (case ob => rfl); (case on => assumption); (case oN => k_asm); (case om => k_mem); (case ov => assumption); k_whole) | (refine' ce_cell ?oN ?oc ?om ?od ?_ ?oa ?ob; (case oa => rfl); (case ob => rfl); (case oN => k_asm); (case oc => rfl); (case om => k_mem); (case od => k_asm); k_whole) | (refine' ce_K ?oF ?oX ?oT ?oe ?_ ?og ?oa ?ob; (case og => rfl); (case oa => rfl); (case ob => rfl); (case oF => k_asm); (case oX => k_asm); (case oT => k_asm); (case oe => k_is); k_whole) | (refine' ce_B ?oF ?oX ?oT ?oe ?ov ?on ?_ ?og ?ogb ?oa ?ob; (case og => rfl); (case ogb => rfl); (case oa => rfl); (case ob => rfl); (case oF => k_asm); (case oX => k_asm); (case oT => k_asm); (case oe => k_is); (case ov => boot_fast); (case on => decide); k_whole)))) | (with_reducible (show wpAny _ _ (eval (PySem.Expr.Name _ _) _) _ _ _; k_here; k_dflt (first | (refine' nameX_F ?oN ?oc ?om ?od ?_ ?oa ?ob; (case oa => rfl); (case ob => rfl); (case oN => k_asm); (case oc => rfl); (case om => k_mem); (case od => k_asm); k_whole) | (refine' nameX_C ?oN ?oc ?om ?od ?_ ?oa ?ob; (case oa => rfl); (case ob => rfl); (case oN => k_asm); (case oc => rfl); (case om => k_mem); (case od => k_asm); k_whole)))) | (with_reducible (show wpAny _ _ (newList _) _ _ _; k_here; k_dflt (refine' newList_K ?ok1 ?ok2 ?_ ?ok3; (case ok1 => k_asm); (case ok2 => k_asm); (case ok3 => exact sz_small rfl); k_whole); intro _ _ _ _ lz; (try k_lt lz); (try (revert lz; intro _)); (try k_sweep))) | (with_reducible (show wpAny _ _ (newTuple _) _ _ _; k_here; k_dflt (refine' kup_newTuple ?oF ?oN ?_ ?oz; (case oF => k_asm); (case oN => k_asm); (case oz => exact sz_small rfl); k_whole); intro _ _ _ _ lz; (try k_lt lz); (try (revert lz; intro _)); (try k_sweep))) | (with_reducible (show wpAny _ _ (subscriptTail _ _ (Value.ref _) (Value.int 0 _)) _ _ _; k_here; k_dflt (refine' sub_head ?ok1 ?ok2 ?_ ?ok7 ?ok8; (case ok1 => k_asm); (case ok2 => k_mem); (case ok7 => with_unfolding_all rfl); (case ok8 => (intro _; with_unfolding_all rfl)); k_whole))) | (with_reducible (show wpAny _ _ (subscriptTail _ _ (Value.ref _) (Value.int _ _)) _ _ _; k_here; k_dflt (refine' sub_ints ?ok1 ?ok2 ?ok3 ?ok4 ?ok5 ?ok6 ?_ ?ok7 ?ok8; (case ok1 => k_asm); (case ok2 => k_mem); (case ok3 => assumption); (case ok4 => first | exact le_pred (by assumption) (by assumption) | omega); (case ok5 => first | (simp only [stepsP_length]; first | exact lt_pred (by assumption) (by assumption) (by assumption) | omega) | (simp only [List.length_cons, List.length_nil]; omega)); (case ok6 => first | (simp only [stepsP_length]; first | assumption | omega) | (simp only [List.length_cons, List.length_nil]; omega)); (case ok7 => with_unfolding_all rfl); (case ok8 => (intro _; with_unfolding_all rfl)); k_whole); intro _ _ _)) | (with_reducible (show wpAny _ _ (subscriptTail _ _ (Value.ref _) (Value.int _ _)) _ _ _; k_here; k_dflt (refine' sub_refs ?ok1 ?ok2 ?ok3 ?ok4 ?ok5 ?_ ?ok6 ?ok7; (case ok1 => k_asm); (case ok2 => k_mem); (case ok3 => first | assumption | exact le_pred (by assumption) (by assumption) | omega); (case ok4 => first | assumption | exact lt_pred (by assumption) (by assumption) (by assumption) | omega); (case ok5 => first | assumption | omega); (case ok6 => with_unfolding_all rfl); (case ok7 => (intro _; with_unfolding_all rfl)); k_whole); intro _ ha'; (try simp only [Int.toNat_natCast] at ha'); revert ha'; intro _)) | walk1 | (dsimp only; walk1)))
          rename las1[_]? = some _ => ha
          rename _ = (low : Int) - 1 => hv4
          rw [hv4, toNat_pred hlow.1] at ha
          obtain rfl := Option.some.inj (hgl.symm.trans ha)
          refine wpAny_isNot_ref_self ?_
          repeat' (first | (k_unfold; (try dsimp only); repeat (first | clear ek | clear qk)) | ((fail_if_success (with_reducible show wpAny _ _ (exec (Stmt.While _ _ _ _) _) _ _ _)); (fail_if_success (with_reducible show wpAny _ _ (exec (Stmt.For _ _ _ _ _) _) _ _ _)); (fail_if_success (with_reducible show wpAny _ _ (eval (Expr.ListComp _ _ _ _) _) _ _ _)); (fail_if_success (with_reducible show wpAny _ _ (exec (Stmt.Assign _ (Expr.ListComp _ _ _ _) _) _) _ _ _)); (fail_if_success (with_reducible show wpAny _ _ (pyIter _) _ _ _)); (fail_if_success (with_reducible show wpAny _ _ (call (Value.ref _) _) _ _ _)); (fail_if_success (with_reducible show wpAny _ _ (setItem _ _ _) _ _ _)); (fail_if_success (with_reducible show wpAny _ _ (call (Value.builtin "list.append") _) _ _ _)); (fail_if_success (with_reducible show wpAny _ _ (call (Value.builtin "sorted") _) _ _ _)); (fail_if_success (with_reducible show wpAny _ _ (call (Value.type "list") _) _ _ _)); (fail_if_success (with_reducible show wpAny _ _ (compareOp _ (Value.ref _) (Value.ref _)) _ _ _)); (fail_if_success (with_reducible show wpAny _ _ (binaryOp _ (Value.ref _) (Value.ref _)) _ _ _)); first | ((first | (with_reducible show wpAny _ _ (exec _ _) _ _ _) | ((with_reducible show wpAny _ _ (eval _ _) _ _ _); (fail_if_success (with_reducible show wpAny _ _ (eval (PySem.Expr.Name _ _) _) _ _ _)); (fail_if_success (with_reducible show wpAny _ _ (eval (PySem.Expr.Constant _ _ _) _) _ _ _)); skip)); k_fold) | (with_reducible (show wpAny _ _ (binaryOp Operator.Add (Value.int _ _) (Value.int _ _)) _ _ _; k_here; (refine my_add ?_); intro _ _ _)) | (with_reducible (show wpAny _ _ (binaryOp Operator.Mult (Value.int _ _) (Value.int _ _)) _ _ _; k_here; (refine my_mul (by first | (left; decide) | (right; decide) | (left; assumption) | (right; assumption) | omega) ?_); intro _ _ _)) | (with_reducible (show wpAny _ _ (binaryOp Operator.Sub (Value.int _ _) (Value.int _ _)) _ _ _; k_here; (refine my_sub ?_); intro _ _ _)) | (with_reducible (show wpAny _ _ (call (Value.builtin "len") [Value.ref _]) _ _ _; k_here; k_dflt (refine' len_refs ?ok1 ?ok2 ?ok3 ?_; (case ok1 => k_asm); (case ok2 => k_mem); (case ok3 => first | assumption | omega); k_whole); intro _ _)) | (with_reducible (show wpAny _ _ (call (Value.type "range") _) _ _ _; k_here; k_dflt (first | (refine' my_range1 ?ok1 ?ok2 ?_; (case ok1 => k_asm); (case ok2 => k_asm); k_whole; intro _ _ _ _ _ _ _ _) | (refine' my_range2 ?ok1 ?ok2 ?_; (case ok1 => k_asm); (case ok2 => k_asm); k_whole; intro _ _ _ _ _ _ _)); (try k_sweep))) | (with_reducible (show wpAny _ _ (callWith _ (Value.ref _) _ _ _) _ _ _; k_here; k_dflt (first | (refine' callWith_K ?ok1 ?ok2 ?_; (case ok1 => k_asm); (case ok2 => k_is); k_whole) | (refine' callWith_K0 ?ok1 ?ok2 ?_; (case ok1 => k_in); (case ok2 => k_is); k_whole)))) | (with_reducible (show wpAny _ _ (eval (PySem.Expr.Name _ _) (compEnvC _ _ _ _)) _ _ _; k_here; k_dflt (first | (refine' ce_local ?oN ?om ?on ?ov ?_ ?oa ?ob; (case oa => rfl); (case ob => rfl); (case on => assumption); (case oN => k_asm); (case om => k_mem); (case ov => assumption); k_whole) | (refine' ce_cell ?oN ?oc ?om ?od ?_ ?oa ?ob; (case oa => rfl); (case ob => rfl); (case oN => k_asm); (case oc => rfl); (case om => k_mem); (case od => k_asm); k_whole) | (refine' ce_K ?oF ?oX ?oT ?oe ?_ ?og ?oa ?ob; (case og => rfl); (case oa => rfl); (case ob => rfl); (case oF => k_asm); (case oX => k_asm); (case oT => k_asm); (case oe => k_is); k_whole) | (refine' ce_B ?oF ?oX ?oT ?oe ?ov ?on ?_ ?og ?ogb ?oa ?ob; (case og => rfl); (case ogb => rfl); (case oa => rfl); (case ob => rfl); (case oF => k_asm); (case oX => k_asm); (case oT => k_asm); (case oe => k_is); (case ov => boot_fast); (case on => decide); k_whole)))) | (with_reducible (show wpAny _ _ (eval (PySem.Expr.Name _ _) _) _ _ _; k_here; k_dflt (first | (refine' nameX_F ?oN ?oc ?om ?od ?_ ?oa ?ob; (case oa => rfl); (case ob => rfl); (case oN => k_asm); (case oc => rfl); (case om => k_mem); (case od => k_asm); k_whole) | (refine' nameX_C ?oN ?oc ?om ?od ?_ ?oa ?ob; (case oa => rfl); (case ob => rfl); (case oN => k_asm); (case oc => rfl); (case om => k_mem); (case od => k_asm); k_whole)))) | (with_reducible (show wpAny _ _ (newList _) _ _ _; k_here; k_dflt (refine' newList_K ?ok1 ?ok2 ?_ ?ok3; (case ok1 => k_asm); (case ok2 => k_asm); (case ok3 => exact sz_small rfl); k_whole); intro _ _ _ _ lz; (try k_lt lz); (try (revert lz; intro _)); (try k_sweep))) | (with_reducible (show wpAny _ _ (newTuple _) _ _ _; k_here; k_dflt (refine' kup_newTuple ?oF ?oN ?_ ?oz; (case oF => k_asm); (case oN => k_asm); (case oz => exact sz_small rfl); k_whole); intro _ _ _ _ lz; (try k_lt lz); (try (revert lz; intro _)); (try k_sweep))) | (with_reducible (show wpAny _ _ (subscriptTail _ _ (Value.ref _) (Value.int 0 _)) _ _ _; k_here; k_dflt (refine' sub_head ?ok1 ?ok2 ?_ ?ok7 ?ok8; (case ok1 => k_asm); (case ok2 => k_mem); (case ok7 => with_unfolding_all rfl); (case ok8 => (intro _; with_unfolding_all rfl)); k_whole))) | (with_reducible (show wpAny _ _ (subscriptTail _ _ (Value.ref _) (Value.int _ _)) _ _ _; k_here; k_dflt (refine' sub_ints ?ok1 ?ok2 ?ok3 ?ok4 ?ok5 ?ok6 ?_ ?ok7 ?ok8; (case ok1 => k_asm); (case ok2 => k_mem); (case ok3 => assumption); (case ok4 => first | exact le_pred (by assumption) (by assumption) | omega); (case ok5 => first | (simp only [stepsP_length]; first | exact lt_pred (by assumption) (by assumption) (by assumption) | omega) | (simp only [List.length_cons, List.length_nil]; omega)); (case ok6 => first | (simp only [stepsP_length]; first | assumption | omega) | (simp only [List.length_cons, List.length_nil]; omega)); (case ok7 => with_unfolding_all rfl); (case ok8 => (intro _; with_unfolding_all rfl)); k_whole); intro _ _ _)) | (with_reducible (show wpAny _ _ (subscriptTail _ _ (Value.ref _) (Value.int _ _)) _ _ _; k_here; k_dflt (refine' sub_refs ?ok1 ?ok2 ?ok3 ?ok4 ?ok5 ?_ ?ok6 ?ok7; (case ok1 => k_asm); (case ok2 => k_mem); (case ok3 => first | assumption | exact le_pred (by assumption) (by assumption) | omega); (case ok4 => first | assumption | exact lt_pred (by assumption) (by assumption) (by assumption) | omega); (case ok5 => first | assumption | omega); (case ok6 => with_unfolding_all rfl); (case ok7 => (intro _; with_unfolding_all rfl)); k_whole); intro _ ha'; (try simp only [Int.toNat_natCast] at ha'); revert ha'; intro _)) | walk1 | (dsimp only; walk1)))
          rename News _ _ _ _ => lN3
          refine ke_ne_ints ⟨_, (lN3 _ (List.mem_cons_of_mem _ mI8)).1, rfl, _, rfl⟩ ⟨_, (lN3 _ List.mem_cons_self).1, rfl, _, rfl⟩ hI3 hI3 (by first | ke_room | ktr_units) ?_
          simp only [decide_true, Bool.not_true]
          repeat' (first | (k_unfold; (try dsimp only); repeat (first | clear ek | clear qk)) | ((fail_if_success (with_reducible show wpAny _ _ (exec (Stmt.While _ _ _ _) _) _ _ _)); (fail_if_success (with_reducible show wpAny _ _ (exec (Stmt.For _ _ _ _ _) _) _ _ _)); (fail_if_success (with_reducible show wpAny _ _ (eval (Expr.ListComp _ _ _ _) _) _ _ _)); (fail_if_success (with_reducible show wpAny _ _ (exec (Stmt.Assign _ (Expr.ListComp _ _ _ _) _) _) _ _ _)); (fail_if_success (with_reducible show wpAny _ _ (pyIter _) _ _ _)); (fail_if_success (with_reducible show wpAny _ _ (call (Value.ref _) _) _ _ _)); (fail_if_success (with_reducible show wpAny _ _ (setItem _ _ _) _ _ _)); (fail_if_success (with_reducible show wpAny _ _ (call (Value.builtin "list.append") _) _ _ _)); (fail_if_success (with_reducible show wpAny _ _ (call (Value.builtin "sorted") _) _ _ _)); (fail_if_success (with_reducible show wpAny _ _ (call (Value.type "list") _) _ _ _)); (fail_if_success (with_reducible show wpAny _ _ (compareOp _ (Value.ref _) (Value.ref _)) _ _ _)); (fail_if_success (with_reducible show wpAny _ _ (binaryOp _ (Value.ref _) (Value.ref _)) _ _ _)); first | ((first | (with_reducible show wpAny _ _ (exec _ _) _ _ _) | ((with_reducible show wpAny _ _ (eval _ _) _ _ _); (fail_if_success (with_reducible show wpAny _ _ (eval (PySem.Expr.Name _ _) _) _ _ _)); (fail_if_success (with_reducible show wpAny _ _ (eval (PySem.Expr.Constant _ _ _) _) _ _ _)); skip)); k_fold) | (with_reducible (show wpAny _ _ (binaryOp Operator.Add (Value.int _ _) (Value.int _ _)) _ _ _; k_here; (refine my_add ?_); intro _ _ _)) | (with_reducible (show wpAny _ _ (binaryOp Operator.Mult (Value.int _ _) (Value.int _ _)) _ _ _; k_here; (refine my_mul (by first | (left; decide) | (right; decide) | (left; assumption) | (right; assumption) | omega) ?_); intro _ _ _)) | (with_reducible (show wpAny _ _ (binaryOp Operator.Sub (Value.int _ _) (Value.int _ _)) _ _ _; k_here; (refine my_sub ?_); intro _ _ _)) | (with_reducible (show wpAny _ _ (call (Value.builtin "len") [Value.ref _]) _ _ _; k_here; k_dflt (refine' len_refs ?ok1 ?ok2 ?ok3 ?_; (case ok1 => k_asm); (case ok2 => k_mem); (case ok3 => first | assumption | omega); k_whole); intro _ _)) | (with_reducible (show wpAny _ _ (call (Value.type "range") _) _ _ _; k_here; k_dflt (first | (refine' my_range1 ?ok1 ?ok2 ?_; (case ok1 => k_asm); (case ok2 => k_asm); k_whole; intro _ _ _ _ _ _ _ _) | (refine' my_range2 ?ok1 ?ok2 ?_; (case ok1 => k_asm); (case ok2 => k_asm); k_whole; intro _ _ _ _ _ _ _)); (try k_sweep))) | (with_reducible (show wpAny _ _ (callWith _ (Value.ref _) _ _ _) _ _ _; k_here; k_dflt (first | (refine' callWith_K ?ok1 ?ok2 ?_; (case ok1 => k_asm); (case ok2 => k_is); k_whole) | (refine' callWith_K0 ?ok1 ?ok2 ?_; (case ok1 => k_in); (case ok2 => k_is); k_whole)))) | (with_reducible (show wpAny _ _ (eval (PySem.Expr.Name _ _) (compEnvC _ _ _ _)) _ _ _; k_here; k_dflt (first | (refine' ce_local ?oN ?om ?on ?ov ?_ ?oa ?ob; (case oa => rfl); (case ob => rfl); (case on => assumption); (case oN => k_asm); (case om => k_mem); (case ov => assumption); k_whole) | (refine' ce_cell ?oN ?oc ?om ?od ?_ ?oa ?ob; (case oa => rfl); (case ob => rfl); (case oN => k_asm); (case oc => rfl); (case om => k_mem); (case od => k_asm); k_whole) | (refine' ce_K ?oF ?oX ?oT ?oe ?_ ?og ?oa ?ob; (case og => rfl); (case oa => rfl); (case ob => rfl); (case oF => k_asm); (case oX => k_asm); (case oT => k_asm); (case oe => k_is); k_whole) | (refine' ce_B ?oF ?oX ?oT ?oe ?ov ?on ?_ ?og ?ogb ?oa ?ob; (case og => rfl); (case ogb => rfl); (case oa => rfl); (case ob => rfl); (case oF => k_asm); (case oX => k_asm); (case oT => k_asm); (case oe => k_is); (case ov => boot_fast); (case on => decide); k_whole)))) | (with_reducible (show wpAny _ _ (eval (PySem.Expr.Name _ _) _) _ _ _; k_here; k_dflt (first | (refine' nameX_F ?oN ?oc ?om ?od ?_ ?oa ?ob; (case oa => rfl); (case ob => rfl); (case oN => k_asm); (case oc => rfl); (case om => k_mem); (case od => k_asm); k_whole) | (refine' nameX_C ?oN ?oc ?om ?od ?_ ?oa ?ob; (case oa => rfl); (case ob => rfl); (case oN => k_asm); (case oc => rfl); (case om => k_mem); (case od => k_asm); k_whole)))) | (with_reducible (show wpAny _ _ (newList _) _ _ _; k_here; k_dflt (refine' newList_K ?ok1 ?ok2 ?_ ?ok3; (case ok1 => k_asm); (case ok2 => k_asm); (case ok3 => exact sz_small rfl); k_whole); intro _ _ _ _ lz; (try k_lt lz); (try (revert lz; intro _)); (try k_sweep))) | (with_reducible (show wpAny _ _ (newTuple _) _ _ _; k_here; k_dflt (refine' kup_newTuple ?oF ?oN ?_ ?oz; (case oF => k_asm); (case oN => k_asm); (case oz => exact sz_small rfl); k_whole); intro _ _ _ _ lz; (try k_lt lz); (try (revert lz; intro _)); (try k_sweep))) | (with_reducible (show wpAny _ _ (subscriptTail _ _ (Value.ref _) (Value.int 0 _)) _ _ _; k_here; k_dflt (refine' sub_head ?ok1 ?ok2 ?_ ?ok7 ?ok8; (case ok1 => k_asm); (case ok2 => k_mem); (case ok7 => with_unfolding_all rfl); (case ok8 => (intro _; with_unfolding_all rfl)); k_whole))) | (with_reducible (show wpAny _ _ (subscriptTail _ _ (Value.ref _) (Value.int _ _)) _ _ _; k_here; k_dflt (refine' sub_ints ?ok1 ?ok2 ?ok3 ?ok4 ?ok5 ?ok6 ?_ ?ok7 ?ok8; (case ok1 => k_asm); (case ok2 => k_mem); (case ok3 => assumption); (case ok4 => first | exact le_pred (by assumption) (by assumption) | omega); (case ok5 => first | (simp only [stepsP_length]; first | exact lt_pred (by assumption) (by assumption) (by assumption) | omega) | (simp only [List.length_cons, List.length_nil]; omega)); (case ok6 => first | (simp only [stepsP_length]; first | assumption | omega) | (simp only [List.length_cons, List.length_nil]; omega)); (case ok7 => with_unfolding_all rfl); (case ok8 => (intro _; with_unfolding_all rfl)); k_whole); intro _ _ _)) | (with_reducible (show wpAny _ _ (subscriptTail _ _ (Value.ref _) (Value.int _ _)) _ _ _; k_here; k_dflt (refine' sub_refs ?ok1 ?ok2 ?ok3 ?ok4 ?ok5 ?_ ?ok6 ?ok7; (case ok1 => k_asm); (case ok2 => k_mem); (case ok3 => first | assumption | exact le_pred (by assumption) (by assumption) | omega); (case ok4 => first | assumption | exact lt_pred (by assumption) (by assumption) (by assumption) | omega); (case ok5 => first | assumption | omega); (case ok6 => with_unfolding_all rfl); (case ok7 => (intro _; with_unfolding_all rfl)); k_whole); intro _ ha'; (try simp only [Int.toNat_natCast] at ha'); revert ha'; intro _)) | walk1 | (dsimp only; walk1)))
          rename _ = (low : Int) - 1 => hv5
          rename Fr _ _ _ _ => lF4
          refine set_mem lF4 lN3 (List.mem_cons_of_mem _ m48) (le_pred hv5 hlow1) (lt_pred hv5 hlow1 hlow3) hz1 ?_
          intro h5 led5 e5 F5 N5 mL5 k5
          have tb5 := Tabs.updS lN3 (tb8.sub fun q hq => List.mem_cons_of_mem _ hq) (List.mem_cons_of_mem _ m48) (list_nf _ _) k5
          rw [hv5, toNat_pred hlow.1] at mL5
          have m65 := k5 _ (List.mem_cons_of_mem _ m68) (Ne.symm ds'.2.2.2.2.1)
          repeat' (first | (k_unfold; (try dsimp only); repeat (first | clear ek | clear qk)) | ((fail_if_success (with_reducible show wpAny _ _ (exec (Stmt.While _ _ _ _) _) _ _ _)); (fail_if_success (with_reducible show wpAny _ _ (exec (Stmt.For _ _ _ _ _) _) _ _ _)); (fail_if_success (with_reducible show wpAny _ _ (eval (Expr.ListComp _ _ _ _) _) _ _ _)); (fail_if_success (with_reducible show wpAny _ _ (exec (Stmt.Assign _ (Expr.ListComp _ _ _ _) _) _) _ _ _)); (fail_if_success (with_reducible show wpAny _ _ (pyIter _) _ _ _)); (fail_if_success (with_reducible show wpAny _ _ (call (Value.ref _) _) _ _ _)); (fail_if_success (with_reducible show wpAny _ _ (setItem _ _ _) _ _ _)); (fail_if_success (with_reducible show wpAny _ _ (call (Value.builtin "list.append") _) _ _ _)); (fail_if_success (with_reducible show wpAny _ _ (call (Value.builtin "sorted") _) _ _ _)); (fail_if_success (with_reducible show wpAny _ _ (call (Value.type "list") _) _ _ _)); (fail_if_success (with_reducible show wpAny _ _ (compareOp _ (Value.ref _) (Value.ref _)) _ _ _)); (fail_if_success (with_reducible show wpAny _ _ (binaryOp _ (Value.ref _) (Value.ref _)) _ _ _)); first | ((first | (with_reducible show wpAny _ _ (exec _ _) _ _ _) | ((with_reducible show wpAny _ _ (eval _ _) _ _ _); (fail_if_success (with_reducible show wpAny _ _ (eval (PySem.Expr.Name _ _) _) _ _ _)); (fail_if_success (with_reducible show wpAny _ _ (eval (PySem.Expr.Constant _ _ _) _) _ _ _)); skip)); k_fold) | (with_reducible (show wpAny _ _ (binaryOp Operator.Add (Value.int _ _) (Value.int _ _)) _ _ _; k_here; (refine my_add ?_); intro _ _ _)) | (with_reducible (show wpAny _ _ (binaryOp Operator.Mult (Value.int _ _) (Value.int _ _)) _ _ _; k_here; (refine my_mul (by first | (left; decide) | (right; decide) | (left; assumption) | (right; assumption) | omega) ?_); intro _ _ _)) | (with_reducible (show wpAny _ _ (binaryOp Operator.Sub (Value.int _ _) (Value.int _ _)) _ _ _; k_here; (refine my_sub ?_); intro _ _ _)) | (with_reducible (show wpAny _ _ (call (Value.builtin "len") [Value.ref _]) _ _ _; k_here; k_dflt (refine' len_refs ?ok1 ?ok2 ?ok3 ?_; (case ok1 => k_asm); (case ok2 => k_mem); (case ok3 => first | assumption | omega); k_whole); intro _ _)) | (with_reducible (show wpAny _ _ (call (Value.type "range") _) _ _ _; k_here; k_dflt (first | (refine' my_range1 ?ok1 ?ok2 ?_; (case ok1 => k_asm); (case ok2 => k_asm); k_whole; intro _ _ _ _ _ _ _ _) | (refine' my_range2 ?ok1 ?ok2 ?_; (case ok1 => k_asm); (case ok2 => k_asm); k_whole; intro _ _ _ _ _ _ _)); (try k_sweep))) | (with_reducible (show wpAny _ _ (callWith _ (Value.ref _) _ _ _) _ _ _; k_here; k_dflt (first | (refine' callWith_K ?ok1 ?ok2 ?_; (case ok1 => k_asm); (case ok2 => k_is); k_whole) | (refine' callWith_K0 ?ok1 ?ok2 ?_; (case ok1 => k_in); (case ok2 => k_is); k_whole)))) | (with_reducible (show wpAny _ _ (eval (PySem.Expr.Name _ _) (compEnvC _ _ _ _)) _ _ _; k_here; k_dflt (first | (refine' ce_local ?oN ?om ?on ?ov ?_ ?oa ?ob; (case oa => rfl); (case ob => rfl); (case on => assumption); (case oN => k_asm); (case om => k_mem); (case ov => assumption); k_whole) | (refine' ce_cell ?oN ?oc ?om ?od ?_ ?oa ?ob; (case oa => rfl); (case ob => rfl); (case oN => k_asm); (case oc => rfl); (case om => k_mem); (case od => k_asm); k_whole) | (refine' ce_K ?oF ?oX ?oT ?oe ?_ ?og ?oa ?ob; (case og => rfl); (case oa => rfl); (case ob => rfl); (case oF => k_asm); (case oX => k_asm); (case oT => k_asm); (case oe => k_is); k_whole) | (refine' ce_B ?oF ?oX ?oT ?oe ?ov ?on ?_ ?og ?ogb ?oa ?ob; (case og => rfl); (case ogb => rfl); (case oa => rfl); (case ob => rfl); (case oF => k_asm); (case oX => k_asm); (case oT => k_asm); (case oe => k_is); (case ov => boot_fast); (case on => decide); k_whole)))) | (with_reducible (show wpAny _ _ (eval (PySem.Expr.Name _ _) _) _ _ _; k_here; k_dflt (first | (refine' nameX_F ?oN ?oc ?om ?od ?_ ?oa ?ob; (case oa => rfl); (case ob => rfl); (case oN => k_asm); (case oc => rfl); (case om => k_mem); (case od => k_asm); k_whole) | (refine' nameX_C ?oN ?oc ?om ?od ?_ ?oa ?ob; (case oa => rfl); (case ob => rfl); (case oN => k_asm); (case oc => rfl); (case om => k_mem); (case od => k_asm); k_whole)))) | (with_reducible (show wpAny _ _ (newList _) _ _ _; k_here; k_dflt (refine' newList_K ?ok1 ?ok2 ?_ ?ok3; (case ok1 => k_asm); (case ok2 => k_asm); (case ok3 => exact sz_small rfl); k_whole); intro _ _ _ _ lz; (try k_lt lz); (try (revert lz; intro _)); (try k_sweep))) | (with_reducible (show wpAny _ _ (newTuple _) _ _ _; k_here; k_dflt (refine' kup_newTuple ?oF ?oN ?_ ?oz; (case oF => k_asm); (case oN => k_asm); (case oz => exact sz_small rfl); k_whole); intro _ _ _ _ lz; (try k_lt lz); (try (revert lz; intro _)); (try k_sweep))) | (with_reducible (show wpAny _ _ (subscriptTail _ _ (Value.ref _) (Value.int 0 _)) _ _ _; k_here; k_dflt (refine' sub_head ?ok1 ?ok2 ?_ ?ok7 ?ok8; (case ok1 => k_asm); (case ok2 => k_mem); (case ok7 => with_unfolding_all rfl); (case ok8 => (intro _; with_unfolding_all rfl)); k_whole))) | (with_reducible (show wpAny _ _ (subscriptTail _ _ (Value.ref _) (Value.int _ _)) _ _ _; k_here; k_dflt (refine' sub_ints ?ok1 ?ok2 ?ok3 ?ok4 ?ok5 ?ok6 ?_ ?ok7 ?ok8; (case ok1 => k_asm); (case ok2 => k_mem); (case ok3 => assumption); (case ok4 => first | exact le_pred (by assumption) (by assumption) | omega); (case ok5 => first | (simp only [stepsP_length]; first | exact lt_pred (by assumption) (by assumption) (by assumption) | omega) | (simp only [List.length_cons, List.length_nil]; omega)); (case ok6 => first | (simp only [stepsP_length]; first | assumption | omega) | (simp only [List.length_cons, List.length_nil]; omega)); (case ok7 => with_unfolding_all rfl); (case ok8 => (intro _; with_unfolding_all rfl)); k_whole); intro _ _ _)) | (with_reducible (show wpAny _ _ (subscriptTail _ _ (Value.ref _) (Value.int _ _)) _ _ _; k_here; k_dflt (refine' sub_refs ?ok1 ?ok2 ?ok3 ?ok4 ?ok5 ?_ ?ok6 ?ok7; (case ok1 => k_asm); (case ok2 => k_mem); (case ok3 => first | assumption | exact le_pred (by assumption) (by assumption) | omega); (case ok4 => first | assumption | exact lt_pred (by assumption) (by assumption) (by assumption) | omega); (case ok5 => first | assumption | omega); (case ok6 => with_unfolding_all rfl); (case ok7 => (intro _; with_unfolding_all rfl)); k_whole); intro _ ha'; (try simp only [Int.toNat_natCast] at ha'); revert ha'; intro _)) | walk1 | (dsimp only; walk1)))
          rename Fr _ _ _ _ => lF5
          rename News _ _ _ _ => lN5
          refine my_append (vs := nas.map Value.ref) lF5 lN5 (List.mem_cons_of_mem _ m65) (by rw [List.length_map]; exact hnz) ?_
          intro h6 led6 F6 N6 mN6 k6 _
          rename_i tp _ htp _
          have tb6 := Tabs.updS lN5 (tb5.sub fun q hq => List.mem_cons_of_mem _ hq) (List.mem_cons_of_mem _ m65) (list_nf _ _) k6
          refine wpAny_execs_nil ?_
          have go5 : ∀ p ∈ news8, p.1 ≠ La → p.1 ≠ No → p ∈ led6 := fun p hp n1 n2 => k6 p (List.mem_cons_of_mem _ (k5 p (List.mem_cons_of_mem _ hp) n1)) n2
          have eN : nas.map Value.ref ++ [Value.ref tp] = (nas ++ [tp]).map Value.ref := by simp
          rw [eN] at mN6
          subst hhe
          obtain ⟨_, lN1⟩ := hN1
          refine' ksw_end (his1.set (low - 1) (his1.getD (low - 1) 0 + 1), las1.set (low - 1) f, siftup (ltI (his1.set (low - 1) (his1.getD (low - 1) 0 + 1))) (low :: rest) 0, nas ++ [tp], acc1 ++ [(his1.getD (low - 1) 0, (low : Int))], led6, k) (by assumption) N6 ?e1 trivial ?e4 ?e5 ?e6 ?e7
          case e1 => exact fun p hp => hp
          case e4 => kst_all
          case e5 => ksw_same
          case e7 => exact Nat.lt_succ_self k
          case e6 =>
            refine ⟨NI.turn hT0 lN1 (fun p hp _ => hltf p hp) (fun p hp _ n1 n2 n3 => go5 p (kk8 p hp n1) n2 n3) (go5 _ mf8 (Ne.symm (Nat.ne_of_lt (hltf _ m4'))) (Ne.symm (Nat.ne_of_lt (hltf _ m6')))) (go5 _ m8 (Ne.symm ds'.2.2.2.1) ds'.2.2.2.2.2) (k6 _ (List.mem_cons_of_mem _ mL5) ds'.2.2.2.2.1) mN6 (k6 _ List.mem_cons_self (Ne.symm (Nat.ne_of_lt (htp _ m65)))) tb6, ?_, hrun2⟩
            show (acc1 ++ [_]).length + k = n
            rw [List.length_append, List.length_singleton]
            exact (Nat.add_right_comm _ _ _).trans hcnt
        · rename Fr _ _ _ _ => lF2
          rename News _ _ _ _ => lN2
          rename ∀ p, p ∈ led1 → Prod.fst p < _ => hltq
          rename _ ∧ AllLt _ led1 => hltD
          rename _ = List.getD _ _ _ - 1 => hvw
          rename_i vw tvw q _ Dq _ _
          subst hhe
          obtain ⟨v, hv⟩ : ∃ v, v = his1.getD (low - 1) 0 * ((840 / low : Nat) : Int) := ⟨_, rfl⟩
          replace hvw : vw = v - 1 := hvw.trans (by rw [hv]; rfl)
          subst hvw
          refine' store_cell lF2 lN2 ?q1 ?q2 d2' ?_
          case q1 => rfl
          case q2 => exact List.mem_cons_of_mem _ (List.mem_cons_of_mem _ m2')
          intro h8 led8 o8 F8 N8 m8 d8 k8
          have nh8 : ∀ p ∈ led1, (∀ v, p.2.data ≠ .cell v) → p ∈ led8 := fun p hp hc => k8 p (List.mem_cons_of_mem _ (List.mem_cons_of_mem _ hp)) fun e => by
            obtain ⟨p1, p2⟩ := p
            simp only at e
            subst e
            have := news_same (news_sub lN2 fun q hq => List.mem_cons_of_mem _ (List.mem_cons_of_mem _ hq)) hp m2'
            exact hc _ (this ▸ d2')
          have m58 := nh8 _ m5' (list_nc _ _)
          have m48 := nh8 _ m4' (list_nc _ _)
          have m68 := nh8 _ m6' (list_nc _ _)
          have mq8 := k8 _ (List.mem_cons_of_mem _ List.mem_cons_self) (Ne.symm (Nat.ne_of_lt (hltq _ m2')))
          have it8 : ∀ l, 1 ≤ l → l ≤ B → ∃ t1 t2 t3 e, (adr las1 l, item3 (his1.getD (l - 1) 0) l t1 t2 t3 e) ∈ led8 := fun l h1 h2 => by
            obtain ⟨t1, t2, t3, e, hm⟩ := it' l h1 h2
            exact ⟨t1, t2, t3, e, nh8 _ hm (list_nc _ _)⟩
          have pr8 := pr'.mono fun a p q tp tq h => nh8 _ h (tup_nc _)
          have tb8 := Tabs.updS lN2 (tb'.sub fun q hq => List.mem_cons_of_mem _ (List.mem_cons_of_mem _ hq)) (List.mem_cons_of_mem _ (List.mem_cons_of_mem _ m2')) (cell_not_fields d2') k8
          have kp8 : ∀ p ∈ news, Solid p.2 → p ∈ led8 ∧ p.1 ≠ He := fun p hp hs => ⟨k8 p (List.mem_cons_of_mem _ (List.mem_cons_of_mem _ (kp' p hp hs).1)) (kp' p hp hs).2.2.2.1, (kp' p hp hs).2.2.2.2⟩
          have hfr := hT0.fresh (f := q) (fun p hp _ => hltq p hp)
          obtain rfl : k = 0 := k_zero hcnt hnl (by assumption)
          have hend : his1 = his ∧ low :: rest = hs ∧ acc1 = acc := by
            injection hrun1 with e
            injection e with e1 e2
            injection e2 with e2 e3
            exact ⟨e1, e2, e3⟩
          obtain ⟨rfl, hhs, rfl⟩ := hend
          rw [← hhs] at hfin
          have hP := nFinal_parts hfin
          rw [← hv] at hP
          obtain ⟨hnr, ⟨tt, htop⟩, bs, hsort1, hsort2⟩ := hP
          have hr9 : ∀ l ∈ rest, 1 ≤ l ∧ l ≤ B := fun l hl => hm' l (.tail _ hl)
          repeat' (first | (k_unfold; (try dsimp only); repeat (first | clear ek | clear qk)) | ((fail_if_success (with_reducible show wpAny _ _ (exec (Stmt.While _ _ _ _) _) _ _ _)); (fail_if_success (with_reducible show wpAny _ _ (exec (Stmt.For _ _ _ _ _) _) _ _ _)); (fail_if_success (with_reducible show wpAny _ _ (eval (Expr.ListComp _ _ _ _) _) _ _ _)); (fail_if_success (with_reducible show wpAny _ _ (exec (Stmt.Assign _ (Expr.ListComp _ _ _ _) _) _) _ _ _)); (fail_if_success (with_reducible show wpAny _ _ (pyIter _) _ _ _)); (fail_if_success (with_reducible show wpAny _ _ (call (Value.ref _) _) _ _ _)); (fail_if_success (with_reducible show wpAny _ _ (setItem _ _ _) _ _ _)); (fail_if_success (with_reducible show wpAny _ _ (call (Value.builtin "list.append") _) _ _ _)); (fail_if_success (with_reducible show wpAny _ _ (call (Value.builtin "sorted") _) _ _ _)); (fail_if_success (with_reducible show wpAny _ _ (call (Value.type "list") _) _ _ _)); (fail_if_success (with_reducible show wpAny _ _ (compareOp _ (Value.ref _) (Value.ref _)) _ _ _)); (fail_if_success (with_reducible show wpAny _ _ (binaryOp _ (Value.ref _) (Value.ref _)) _ _ _)); first | ((first | (with_reducible show wpAny _ _ (exec _ _) _ _ _) | ((with_reducible show wpAny _ _ (eval _ _) _ _ _); (fail_if_success (with_reducible show wpAny _ _ (eval (PySem.Expr.Name _ _) _) _ _ _)); (fail_if_success (with_reducible show wpAny _ _ (eval (PySem.Expr.Constant _ _ _) _) _ _ _)); skip)); k_fold) | (with_reducible (show wpAny _ _ (binaryOp Operator.Add (Value.int _ _) (Value.int _ _)) _ _ _; k_here; (refine my_add ?_); intro _ _ _)) | (with_reducible (show wpAny _ _ (binaryOp Operator.Mult (Value.int _ _) (Value.int _ _)) _ _ _; k_here; (refine my_mul (by first | (left; decide) | (right; decide) | (left; assumption) | (right; assumption) | omega) ?_); intro _ _ _)) | (with_reducible (show wpAny _ _ (binaryOp Operator.Sub (Value.int _ _) (Value.int _ _)) _ _ _; k_here; (refine my_sub ?_); intro _ _ _)) | (with_reducible (show wpAny _ _ (call (Value.builtin "len") [Value.ref _]) _ _ _; k_here; k_dflt (refine' len_refs ?ok1 ?ok2 ?ok3 ?_; (case ok1 => k_asm); (case ok2 => k_mem); (case ok3 => first | assumption | omega); k_whole); intro _ _)) | (with_reducible (show wpAny _ _ (call (Value.type "range") _) _ _ _; k_here; k_dflt (first | (refine' my_range1 ?ok1 ?ok2 ?_; (case ok1 => k_asm); (case ok2 => k_asm); k_whole; intro _ _ _ _ _ _ _ _) | (refine' my_range2 ?ok1 ?ok2 ?_; (case ok1 => k_asm); (case ok2 => k_asm); k_whole; intro _ _ _ _ _ _ _)); (try k_sweep))) | (with_reducible (show wpAny _ _ (callWith _ (Value.ref _) _ _ _) _ _ _; k_here; k_dflt (first | (refine' callWith_K ?ok1 ?ok2 ?_; (case ok1 => k_asm); (case ok2 => k_is); k_whole) | (refine' callWith_K0 ?ok1 ?ok2 ?_; (case ok1 => k_in); (case ok2 => k_is); k_whole)))) | (with_reducible (show wpAny _ _ (eval (PySem.Expr.Name _ _) (compEnvC _ _ _ _)) _ _ _; k_here; k_dflt (first | (refine' ce_local ?oN ?om ?on ?ov ?_ ?oa ?ob; (case oa => rfl); (case ob => rfl); (case on => assumption); (case oN => k_asm); (case om => k_mem); (case ov => assumption); k_whole) | (refine' ce_cell ?oN ?oc ?om ?od ?_ ?oa ?ob; (case oa => rfl); (case ob => rfl); (case oN => k_asm); (case oc => rfl); (case om => k_mem); (case od => k_asm); k_whole) | (refine' ce_K ?oF ?oX ?oT ?oe ?_ ?og ?oa ?ob; (case og => rfl); (case oa => rfl); (case ob => rfl); (case oF => k_asm); (case oX => k_asm); (case oT => k_asm); (case oe => k_is); k_whole) | (refine' ce_B ?oF ?oX ?oT ?oe ?ov ?on ?_ ?og ?ogb ?oa ?ob; (case og => rfl); (case ogb => rfl); (case oa => rfl); (case ob => rfl); (case oF => k_asm); (case oX => k_asm); (case oT => k_asm); (case oe => k_is); (case ov => boot_fast); (case on => decide); k_whole)))) | (with_reducible (show wpAny _ _ (eval (PySem.Expr.Name _ _) _) _ _ _; k_here; k_dflt (first | (refine' nameX_F ?oN ?oc ?om ?od ?_ ?oa ?ob; (case oa => rfl); (case ob => rfl); (case oN => k_asm); (case oc => rfl); (case om => k_mem); (case od => k_asm); k_whole) | (refine' nameX_C ?oN ?oc ?om ?od ?_ ?oa ?ob; (case oa => rfl); (case ob => rfl); (case oN => k_asm); (case oc => rfl); (case om => k_mem); (case od => k_asm); k_whole)))) | (with_reducible (show wpAny _ _ (newList _) _ _ _; k_here; k_dflt (refine' newList_K ?ok1 ?ok2 ?_ ?ok3; (case ok1 => k_asm); (case ok2 => k_asm); (case ok3 => exact sz_small rfl); k_whole); intro _ _ _ _ lz; (try k_lt lz); (try (revert lz; intro _)); (try k_sweep))) | (with_reducible (show wpAny _ _ (newTuple _) _ _ _; k_here; k_dflt (refine' kup_newTuple ?oF ?oN ?_ ?oz; (case oF => k_asm); (case oN => k_asm); (case oz => exact sz_small rfl); k_whole); intro _ _ _ _ lz; (try k_lt lz); (try (revert lz; intro _)); (try k_sweep))) | (with_reducible (show wpAny _ _ (subscriptTail _ _ (Value.ref _) (Value.int 0 _)) _ _ _; k_here; k_dflt (refine' sub_head ?ok1 ?ok2 ?_ ?ok7 ?ok8; (case ok1 => k_asm); (case ok2 => k_mem); (case ok7 => with_unfolding_all rfl); (case ok8 => (intro _; with_unfolding_all rfl)); k_whole))) | (with_reducible (show wpAny _ _ (subscriptTail _ _ (Value.ref _) (Value.int _ _)) _ _ _; k_here; k_dflt (refine' sub_ints ?ok1 ?ok2 ?ok3 ?ok4 ?ok5 ?ok6 ?_ ?ok7 ?ok8; (case ok1 => k_asm); (case ok2 => k_mem); (case ok3 => assumption); (case ok4 => first | exact le_pred (by assumption) (by assumption) | omega); (case ok5 => first | (simp only [stepsP_length]; first | exact lt_pred (by assumption) (by assumption) (by assumption) | omega) | (simp only [List.length_cons, List.length_nil]; omega)); (case ok6 => first | (simp only [stepsP_length]; first | assumption | omega) | (simp only [List.length_cons, List.length_nil]; omega)); (case ok7 => with_unfolding_all rfl); (case ok8 => (intro _; with_unfolding_all rfl)); k_whole); intro _ _ _)) | (with_reducible (show wpAny _ _ (subscriptTail _ _ (Value.ref _) (Value.int _ _)) _ _ _; k_here; k_dflt (refine' sub_refs ?ok1 ?ok2 ?ok3 ?ok4 ?ok5 ?_ ?ok6 ?ok7; (case ok1 => k_asm); (case ok2 => k_mem); (case ok3 => first | assumption | exact le_pred (by assumption) (by assumption) | omega); (case ok4 => first | assumption | exact lt_pred (by assumption) (by assumption) (by assumption) | omega); (case ok5 => first | assumption | omega); (case ok6 => with_unfolding_all rfl); (case ok7 => (intro _; with_unfolding_all rfl)); k_whole); intro _ ha'; (try simp only [Int.toNat_natCast] at ha'); revert ha'; intro _)) | walk1 | (dsimp only; walk1)))
          have e9 : q :: g :: ras = (9 :: low :: rest).map (adr9 las1 q) := by
            rw [List.map_cons, map_adr9 fun l hl => ?_, adr9_nine, List.map_cons, ← hg, ← hras]
            exact ne9 (hm' l hl) hB
          rename News _ _ _ _ => lN8
          refine Spec.use (heapreplace_mem w He q (g :: ras) e5' (keyF his1 las1 q v) (by simp; exact hrz) (by simp)) (by k_asm) (by k_asm) (by k_asm) lN8 (by k_asm) rfl (by ktr_room) (by ktr_units) ⟨m58, ?_⟩ ?_
          · rw [e9]
            refine keysF l1' l2' nd' z' hfr.1 hfr.2 it8 mq8 (.cons _ _ (.cons _ _ (.cons _ _ .nil))) fun l hl => ?_
            rcases List.mem_cons.mp hl with h | h
            · exact .inl h
            · exact .inr (hm' l h)
          rintro r9 news9 h9 tk9 F9 N9 ⟨rfl, m9, k9⟩
          have eh9 := heap_last (v := v) (low := low) (l2'.trans l1'.symm) nd' z' hfr.1 hfr.2 fun l hl => by
            exact ne9 (hr9 l hl) hB
          rw [List.map_cons, ← hg, ← hras] at eh9
          rw [eh9, htop, List.map_cons, adr9_nine] at m9
          have m49 := k9 _ m48 ds'.2.2.2.1
          have m69 := k9 _ m68 (Ne.symm ds'.2.2.2.2.2)
          have mq9 := k9 _ mq8 (Ne.symm (Nat.ne_of_lt (hltq _ m5')))
          have mc9 := k9 _ m8 (news_ne lN8 m8 m58 (cell_ne_list d8))
          have it9 : ∀ l, 1 ≤ l → l ≤ B → ∃ t1 t2 t3 e, (adr las1 l, item3 (his1.getD (l - 1) 0) l t1 t2 t3 e) ∈ news9 := fun l h1 h2 => by
            obtain ⟨t1, t2, t3, e, hm⟩ := it8 l h1 h2
            exact ⟨t1, t2, t3, e, k9 _ hm (news_ne lN8 hm m58 (Ne.symm refs_ne_item))⟩
          have pr9 := pr8.mono fun a p q tp tq h => k9 _ h (news_ne lN8 h m58 (Ne.symm list_ne_tup))
          have tb9 := Tabs.updS lN8 tb8 m58 (list_nf _ _) k9
          have kp9 : ∀ p ∈ news, Solid p.2 → p ∈ news9 := fun p hp hs => k9 p (kp8 p hp hs).1 (kp8 p hp hs).2
          rw [show (g :: ras).getD 0 0 = g from rfl]
          repeat' (first | (k_unfold; (try dsimp only); repeat (first | clear ek | clear qk)) | ((fail_if_success (with_reducible show wpAny _ _ (exec (Stmt.While _ _ _ _) _) _ _ _)); (fail_if_success (with_reducible show wpAny _ _ (exec (Stmt.For _ _ _ _ _) _) _ _ _)); (fail_if_success (with_reducible show wpAny _ _ (eval (Expr.ListComp _ _ _ _) _) _ _ _)); (fail_if_success (with_reducible show wpAny _ _ (exec (Stmt.Assign _ (Expr.ListComp _ _ _ _) _) _) _ _ _)); (fail_if_success (with_reducible show wpAny _ _ (pyIter _) _ _ _)); (fail_if_success (with_reducible show wpAny _ _ (call (Value.ref _) _) _ _ _)); (fail_if_success (with_reducible show wpAny _ _ (setItem _ _ _) _ _ _)); (fail_if_success (with_reducible show wpAny _ _ (call (Value.builtin "list.append") _) _ _ _)); (fail_if_success (with_reducible show wpAny _ _ (call (Value.builtin "sorted") _) _ _ _)); (fail_if_success (with_reducible show wpAny _ _ (call (Value.type "list") _) _ _ _)); (fail_if_success (with_reducible show wpAny _ _ (compareOp _ (Value.ref _) (Value.ref _)) _ _ _)); (fail_if_success (with_reducible show wpAny _ _ (binaryOp _ (Value.ref _) (Value.ref _)) _ _ _)); first | ((first | (with_reducible show wpAny _ _ (exec _ _) _ _ _) | ((with_reducible show wpAny _ _ (eval _ _) _ _ _); (fail_if_success (with_reducible show wpAny _ _ (eval (PySem.Expr.Name _ _) _) _ _ _)); (fail_if_success (with_reducible show wpAny _ _ (eval (PySem.Expr.Constant _ _ _) _) _ _ _)); skip)); k_fold) | (with_reducible (show wpAny _ _ (binaryOp Operator.Add (Value.int _ _) (Value.int _ _)) _ _ _; k_here; (refine my_add ?_); intro _ _ _)) | (with_reducible (show wpAny _ _ (binaryOp Operator.Mult (Value.int _ _) (Value.int _ _)) _ _ _; k_here; (refine my_mul (by first | (left; decide) | (right; decide) | (left; assumption) | (right; assumption) | omega) ?_); intro _ _ _)) | (with_reducible (show wpAny _ _ (binaryOp Operator.Sub (Value.int _ _) (Value.int _ _)) _ _ _; k_here; (refine my_sub ?_); intro _ _ _)) | (with_reducible (show wpAny _ _ (call (Value.builtin "len") [Value.ref _]) _ _ _; k_here; k_dflt (refine' len_refs ?ok1 ?ok2 ?ok3 ?_; (case ok1 => k_asm); (case ok2 => k_mem); (case ok3 => first | assumption | omega); k_whole); intro _ _)) | (with_reducible (show wpAny _ _ (call (Value.type "range") _) _ _ _; k_here; k_dflt (first | (refine' my_range1 ?ok1 ?ok2 ?_; (case ok1 => k_asm); (case ok2 => k_asm); k_whole; intro _ _ _ _ _ _ _ _) | (refine' my_range2 ?ok1 ?ok2 ?_; (case ok1 => k_asm); (case ok2 => k_asm); k_whole; intro _ _ _ _ _ _ _)); (try k_sweep))) | (with_reducible (show wpAny _ _ (callWith _ (Value.ref _) _ _ _) _ _ _; k_here; k_dflt (first | (refine' callWith_K ?ok1 ?ok2 ?_; (case ok1 => k_asm); (case ok2 => k_is); k_whole) | (refine' callWith_K0 ?ok1 ?ok2 ?_; (case ok1 => k_in); (case ok2 => k_is); k_whole)))) | (with_reducible (show wpAny _ _ (eval (PySem.Expr.Name _ _) (compEnvC _ _ _ _)) _ _ _; k_here; k_dflt (first | (refine' ce_local ?oN ?om ?on ?ov ?_ ?oa ?ob; (case oa => rfl); (case ob => rfl); (case on => assumption); (case oN => k_asm); (case om => k_mem); (case ov => assumption); k_whole) | (refine' ce_cell ?oN ?oc ?om ?od ?_ ?oa ?ob; (case oa => rfl); (case ob => rfl); (case oN => k_asm); (case oc => rfl); (case om => k_mem); (case od => k_asm); k_whole) | (refine' ce_K ?oF ?oX ?oT ?oe ?_ ?og ?oa ?ob; (case og => rfl); (case oa => rfl); (case ob => rfl); (case oF => k_asm); (case oX => k_asm); (case oT => k_asm); (case oe => k_is); k_whole) | (refine' ce_B ?oF ?oX ?oT ?oe ?ov ?on ?_ ?og ?ogb ?oa ?ob; (case og => rfl); (case ogb => rfl); (case oa => rfl); (case ob => rfl); (case oF => k_asm); (case oX => k_asm); (case oT => k_asm); (case oe => k_is); (case ov => boot_fast); (case on => decide); k_whole)))) | (with_reducible (show wpAny _ _ (eval (PySem.Expr.Name _ _) _) _ _ _; k_here; k_dflt (first | (refine' nameX_F ?oN ?oc ?om ?od ?_ ?oa ?ob; (case oa => rfl); (case ob => rfl); (case oN => k_asm); (case oc => rfl); (case om => k_mem); (case od => k_asm); k_whole) | (refine' nameX_C ?oN ?oc ?om ?od ?_ ?oa ?ob; (case oa => rfl); (case ob => rfl); (case oN => k_asm); (case oc => rfl); (case om => k_mem); (case od => k_asm); k_whole)))) | (with_reducible (show wpAny _ _ (newList _) _ _ _; k_here; k_dflt (refine' newList_K ?ok1 ?ok2 ?_ ?ok3; (case ok1 => k_asm); (case ok2 => k_asm); (case ok3 => exact sz_small rfl); k_whole); intro _ _ _ _ lz; (try k_lt lz); (try (revert lz; intro _)); (try k_sweep))) | (with_reducible (show wpAny _ _ (newTuple _) _ _ _; k_here; k_dflt (refine' kup_newTuple ?oF ?oN ?_ ?oz; (case oF => k_asm); (case oN => k_asm); (case oz => exact sz_small rfl); k_whole); intro _ _ _ _ lz; (try k_lt lz); (try (revert lz; intro _)); (try k_sweep))) | (with_reducible (show wpAny _ _ (subscriptTail _ _ (Value.ref _) (Value.int 0 _)) _ _ _; k_here; k_dflt (refine' sub_head ?ok1 ?ok2 ?_ ?ok7 ?ok8; (case ok1 => k_asm); (case ok2 => k_mem); (case ok7 => with_unfolding_all rfl); (case ok8 => (intro _; with_unfolding_all rfl)); k_whole))) | (with_reducible (show wpAny _ _ (subscriptTail _ _ (Value.ref _) (Value.int _ _)) _ _ _; k_here; k_dflt (refine' sub_ints ?ok1 ?ok2 ?ok3 ?ok4 ?ok5 ?ok6 ?_ ?ok7 ?ok8; (case ok1 => k_asm); (case ok2 => k_mem); (case ok3 => assumption); (case ok4 => first | exact le_pred (by assumption) (by assumption) | omega); (case ok5 => first | (simp only [stepsP_length]; first | exact lt_pred (by assumption) (by assumption) (by assumption) | omega) | (simp only [List.length_cons, List.length_nil]; omega)); (case ok6 => first | (simp only [stepsP_length]; first | assumption | omega) | (simp only [List.length_cons, List.length_nil]; omega)); (case ok7 => with_unfolding_all rfl); (case ok8 => (intro _; with_unfolding_all rfl)); k_whole); intro _ _ _)) | (with_reducible (show wpAny _ _ (subscriptTail _ _ (Value.ref _) (Value.int _ _)) _ _ _; k_here; k_dflt (refine' sub_refs ?ok1 ?ok2 ?ok3 ?ok4 ?ok5 ?_ ?ok6 ?ok7; (case ok1 => k_asm); (case ok2 => k_mem); (case ok3 => first | assumption | exact le_pred (by assumption) (by assumption) | omega); (case ok4 => first | assumption | exact lt_pred (by assumption) (by assumption) (by assumption) | omega); (case ok5 => first | assumption | omega); (case ok6 => with_unfolding_all rfl); (case ok7 => (intro _; with_unfolding_all rfl)); k_whole); intro _ ha'; (try simp only [Int.toNat_natCast] at ha'); revert ha'; intro _)) | walk1 | (dsimp only; walk1)))
          k_dflt (refine' comp_eval ?bc ?bk ?bn ?_; (case bc => rfl); (case bk => rfl); (case bn => decide))
          repeat' (first | (k_unfold; (try dsimp only); repeat (first | clear ek | clear qk)) | ((fail_if_success (with_reducible show wpAny _ _ (exec (Stmt.While _ _ _ _) _) _ _ _)); (fail_if_success (with_reducible show wpAny _ _ (exec (Stmt.For _ _ _ _ _) _) _ _ _)); (fail_if_success (with_reducible show wpAny _ _ (eval (Expr.ListComp _ _ _ _) _) _ _ _)); (fail_if_success (with_reducible show wpAny _ _ (exec (Stmt.Assign _ (Expr.ListComp _ _ _ _) _) _) _ _ _)); (fail_if_success (with_reducible show wpAny _ _ (pyIter _) _ _ _)); (fail_if_success (with_reducible show wpAny _ _ (call (Value.ref _) _) _ _ _)); (fail_if_success (with_reducible show wpAny _ _ (setItem _ _ _) _ _ _)); (fail_if_success (with_reducible show wpAny _ _ (call (Value.builtin "list.append") _) _ _ _)); (fail_if_success (with_reducible show wpAny _ _ (call (Value.builtin "sorted") _) _ _ _)); (fail_if_success (with_reducible show wpAny _ _ (call (Value.type "list") _) _ _ _)); (fail_if_success (with_reducible show wpAny _ _ (compareOp _ (Value.ref _) (Value.ref _)) _ _ _)); (fail_if_success (with_reducible show wpAny _ _ (binaryOp _ (Value.ref _) (Value.ref _)) _ _ _)); first | ((first | (with_reducible show wpAny _ _ (exec _ _) _ _ _) | ((with_reducible show wpAny _ _ (eval _ _) _ _ _); (fail_if_success (with_reducible show wpAny _ _ (eval (PySem.Expr.Name _ _) _) _ _ _)); (fail_if_success (with_reducible show wpAny _ _ (eval (PySem.Expr.Constant _ _ _) _) _ _ _)); skip)); k_fold) | (with_reducible (show wpAny _ _ (binaryOp Operator.Add (Value.int _ _) (Value.int _ _)) _ _ _; k_here; (refine my_add ?_); intro _ _ _)) | (with_reducible (show wpAny _ _ (binaryOp Operator.Mult (Value.int _ _) (Value.int _ _)) _ _ _; k_here; (refine my_mul (by first | (left; decide) | (right; decide) | (left; assumption) | (right; assumption) | omega) ?_); intro _ _ _)) | (with_reducible (show wpAny _ _ (binaryOp Operator.Sub (Value.int _ _) (Value.int _ _)) _ _ _; k_here; (refine my_sub ?_); intro _ _ _)) | (with_reducible (show wpAny _ _ (call (Value.builtin "len") [Value.ref _]) _ _ _; k_here; k_dflt (refine' len_refs ?ok1 ?ok2 ?ok3 ?_; (case ok1 => k_asm); (case ok2 => k_mem); (case ok3 => first | assumption | omega); k_whole); intro _ _)) | (with_reducible (show wpAny _ _ (call (Value.type "range") _) _ _ _; k_here; k_dflt (first | (refine' my_range1 ?ok1 ?ok2 ?_; (case ok1 => k_asm); (case ok2 => k_asm); k_whole; intro _ _ _ _ _ _ _ _) | (refine' my_range2 ?ok1 ?ok2 ?_; (case ok1 => k_asm); (case ok2 => k_asm); k_whole; intro _ _ _ _ _ _ _)); (try k_sweep))) | (with_reducible (show wpAny _ _ (callWith _ (Value.ref _) _ _ _) _ _ _; k_here; k_dflt (first | (refine' callWith_K ?ok1 ?ok2 ?_; (case ok1 => k_asm); (case ok2 => k_is); k_whole) | (refine' callWith_K0 ?ok1 ?ok2 ?_; (case ok1 => k_in); (case ok2 => k_is); k_whole)))) | (with_reducible (show wpAny _ _ (eval (PySem.Expr.Name _ _) (compEnvC _ _ _ _)) _ _ _; k_here; k_dflt (first | (refine' ce_local ?oN ?om ?on ?ov ?_ ?oa ?ob; (case oa => rfl); (case ob => rfl); (case on => assumption); (case oN => k_asm); (case om => k_mem); (case ov => assumption); k_whole) | (refine' ce_cell ?oN ?oc ?om ?od ?_ ?oa ?ob; (case oa => rfl); (case ob => rfl); (case oN => k_asm); (case oc => rfl); (case om => k_mem); (case od => k_asm); k_whole) | (refine' ce_K ?oF ?oX ?oT ?oe ?_ ?og ?oa ?ob; (case og => rfl); (case oa => rfl); (case ob => rfl); (case oF => k_asm); (case oX => k_asm); (case oT => k_asm); (case oe => k_is); k_whole) | (refine' ce_B ?oF ?oX ?oT ?oe ?ov ?on ?_ ?og ?ogb ?oa ?ob; (case og => rfl); (case ogb => rfl); (case oa => rfl); (case ob => rfl); (case oF => k_asm); (case oX => k_asm); (case oT => k_asm); (case oe => k_is); (case ov => boot_fast); (case on => decide); k_whole)))) | (with_reducible (show wpAny _ _ (eval (PySem.Expr.Name _ _) _) _ _ _; k_here; k_dflt (first | (refine' nameX_F ?oN ?oc ?om ?od ?_ ?oa ?ob; (case oa => rfl); (case ob => rfl); (case oN => k_asm); (case oc => rfl); (case om => k_mem); (case od => k_asm); k_whole) | (refine' nameX_C ?oN ?oc ?om ?od ?_ ?oa ?ob; (case oa => rfl); (case ob => rfl); (case oN => k_asm); (case oc => rfl); (case om => k_mem); (case od => k_asm); k_whole)))) | (with_reducible (show wpAny _ _ (newList _) _ _ _; k_here; k_dflt (refine' newList_K ?ok1 ?ok2 ?_ ?ok3; (case ok1 => k_asm); (case ok2 => k_asm); (case ok3 => exact sz_small rfl); k_whole); intro _ _ _ _ lz; (try k_lt lz); (try (revert lz; intro _)); (try k_sweep))) | (with_reducible (show wpAny _ _ (newTuple _) _ _ _; k_here; k_dflt (refine' kup_newTuple ?oF ?oN ?_ ?oz; (case oF => k_asm); (case oN => k_asm); (case oz => exact sz_small rfl); k_whole); intro _ _ _ _ lz; (try k_lt lz); (try (revert lz; intro _)); (try k_sweep))) | (with_reducible (show wpAny _ _ (subscriptTail _ _ (Value.ref _) (Value.int 0 _)) _ _ _; k_here; k_dflt (refine' sub_head ?ok1 ?ok2 ?_ ?ok7 ?ok8; (case ok1 => k_asm); (case ok2 => k_mem); (case ok7 => with_unfolding_all rfl); (case ok8 => (intro _; with_unfolding_all rfl)); k_whole))) | (with_reducible (show wpAny _ _ (subscriptTail _ _ (Value.ref _) (Value.int _ _)) _ _ _; k_here; k_dflt (refine' sub_ints ?ok1 ?ok2 ?ok3 ?ok4 ?ok5 ?ok6 ?_ ?ok7 ?ok8; (case ok1 => k_asm); (case ok2 => k_mem); (case ok3 => assumption); (case ok4 => first | exact le_pred (by assumption) (by assumption) | omega); (case ok5 => first | (simp only [stepsP_length]; first | exact lt_pred (by assumption) (by assumption) (by assumption) | omega) | (simp only [List.length_cons, List.length_nil]; omega)); (case ok6 => first | (simp only [stepsP_length]; first | assumption | omega) | (simp only [List.length_cons, List.length_nil]; omega)); (case ok7 => with_unfolding_all rfl); (case ok8 => (intro _; with_unfolding_all rfl)); k_whole); intro _ _ _)) | (with_reducible (show wpAny _ _ (subscriptTail _ _ (Value.ref _) (Value.int _ _)) _ _ _; k_here; k_dflt (refine' sub_refs ?ok1 ?ok2 ?ok3 ?ok4 ?ok5 ?_ ?ok6 ?ok7; (case ok1 => k_asm); (case ok2 => k_mem); (case ok3 => first | assumption | exact le_pred (by assumption) (by assumption) | omega); (case ok4 => first | assumption | exact lt_pred (by assumption) (by assumption) (by assumption) | omega); (case ok5 => first | assumption | omega); (case ok6 => with_unfolding_all rfl); (case ok7 => (intro _; with_unfolding_all rfl)); k_whole); intro _ ha'; (try simp only [Int.toNat_natCast] at ha'); revert ha'; intro _)) | walk1 | (dsimp only; walk1)))
          refine comp_list (vs := las1.map Value.ref) (fun i its led => its = ((las1.take i).filter (fun y => y != g)).map Value.ref ∧ led = news9) rfl m49 (by rw [List.length_map]; exact hz1) (fun _ _ _ h => h.2 ▸ m49) (by decide) rfl rfl (by k_asm) (by k_asm) ⟨rfl, rfl⟩ ?bturn ?bdone
          case bturn =>
            rintro I i v9 its led h tk C oC D8 e o mC E' hin hv9 ⟨rfl, rfl⟩ hl F3 N3 nC hmx sep c1 c2 c3 hso
            have hi : i < las1.length := by rw [List.length_map] at hin; exact hin
            have hv8 : v9 = .ref las1[i] := by
              rw [List.getElem?_map, List.getElem?_eq_getElem hi] at hv9
              exact (Option.some.inj hv9).symm
            subst hv8
            refine wpAny_tests_one ?_
            repeat' (first | (k_unfold; (try dsimp only); repeat (first | clear ek | clear qk)) | ((fail_if_success (with_reducible show wpAny _ _ (exec (Stmt.While _ _ _ _) _) _ _ _)); (fail_if_success (with_reducible show wpAny _ _ (exec (Stmt.For _ _ _ _ _) _) _ _ _)); (fail_if_success (with_reducible show wpAny _ _ (eval (Expr.ListComp _ _ _ _) _) _ _ _)); (fail_if_success (with_reducible show wpAny _ _ (exec (Stmt.Assign _ (Expr.ListComp _ _ _ _) _) _) _ _ _)); (fail_if_success (with_reducible show wpAny _ _ (pyIter _) _ _ _)); (fail_if_success (with_reducible show wpAny _ _ (call (Value.ref _) _) _ _ _)); (fail_if_success (with_reducible show wpAny _ _ (setItem _ _ _) _ _ _)); (fail_if_success (with_reducible show wpAny _ _ (call (Value.builtin "list.append") _) _ _ _)); (fail_if_success (with_reducible show wpAny _ _ (call (Value.builtin "sorted") _) _ _ _)); (fail_if_success (with_reducible show wpAny _ _ (call (Value.type "list") _) _ _ _)); (fail_if_success (with_reducible show wpAny _ _ (compareOp _ (Value.ref _) (Value.ref _)) _ _ _)); (fail_if_success (with_reducible show wpAny _ _ (binaryOp _ (Value.ref _) (Value.ref _)) _ _ _)); first | ((first | (with_reducible show wpAny _ _ (exec _ _) _ _ _) | ((with_reducible show wpAny _ _ (eval _ _) _ _ _); (fail_if_success (with_reducible show wpAny _ _ (eval (PySem.Expr.Name _ _) _) _ _ _)); (fail_if_success (with_reducible show wpAny _ _ (eval (PySem.Expr.Constant _ _ _) _) _ _ _)); skip)); k_fold) | (with_reducible (show wpAny _ _ (binaryOp Operator.Add (Value.int _ _) (Value.int _ _)) _ _ _; k_here; (refine my_add ?_); intro _ _ _)) | (with_reducible (show wpAny _ _ (binaryOp Operator.Mult (Value.int _ _) (Value.int _ _)) _ _ _; k_here; (refine my_mul (by first | (left; decide) | (right; decide) | (left; assumption) | (right; assumption) | omega) ?_); intro _ _ _)) | (with_reducible (show wpAny _ _ (binaryOp Operator.Sub (Value.int _ _) (Value.int _ _)) _ _ _; k_here; (refine my_sub ?_); intro _ _ _)) | (with_reducible (show wpAny _ _ (call (Value.builtin "len") [Value.ref _]) _ _ _; k_here; k_dflt (refine' len_refs ?ok1 ?ok2 ?ok3 ?_; (case ok1 => k_asm); (case ok2 => k_mem); (case ok3 => first | assumption | omega); k_whole); intro _ _)) | (with_reducible (show wpAny _ _ (call (Value.type "range") _) _ _ _; k_here; k_dflt (first | (refine' my_range1 ?ok1 ?ok2 ?_; (case ok1 => k_asm); (case ok2 => k_asm); k_whole; intro _ _ _ _ _ _ _ _) | (refine' my_range2 ?ok1 ?ok2 ?_; (case ok1 => k_asm); (case ok2 => k_asm); k_whole; intro _ _ _ _ _ _ _)); (try k_sweep))) | (with_reducible (show wpAny _ _ (callWith _ (Value.ref _) _ _ _) _ _ _; k_here; k_dflt (first | (refine' callWith_K ?ok1 ?ok2 ?_; (case ok1 => k_asm); (case ok2 => k_is); k_whole) | (refine' callWith_K0 ?ok1 ?ok2 ?_; (case ok1 => k_in); (case ok2 => k_is); k_whole)))) | (with_reducible (show wpAny _ _ (eval (PySem.Expr.Name _ _) (compEnvC _ _ _ _)) _ _ _; k_here; k_dflt (first | (refine' ce_local ?oN ?om ?on ?ov ?_ ?oa ?ob; (case oa => rfl); (case ob => rfl); (case on => assumption); (case oN => k_asm); (case om => k_mem); (case ov => assumption); k_whole) | (refine' ce_cell ?oN ?oc ?om ?od ?_ ?oa ?ob; (case oa => rfl); (case ob => rfl); (case oN => k_asm); (case oc => rfl); (case om => k_mem); (case od => k_asm); k_whole) | (refine' ce_K ?oF ?oX ?oT ?oe ?_ ?og ?oa ?ob; (case og => rfl); (case oa => rfl); (case ob => rfl); (case oF => k_asm); (case oX => k_asm); (case oT => k_asm); (case oe => k_is); k_whole) | (refine' ce_B ?oF ?oX ?oT ?oe ?ov ?on ?_ ?og ?ogb ?oa ?ob; (case og => rfl); (case ogb => rfl); (case oa => rfl); (case ob => rfl); (case oF => k_asm); (case oX => k_asm); (case oT => k_asm); (case oe => k_is); (case ov => boot_fast); (case on => decide); k_whole)))) | (with_reducible (show wpAny _ _ (eval (PySem.Expr.Name _ _) _) _ _ _; k_here; k_dflt (first | (refine' nameX_F ?oN ?oc ?om ?od ?_ ?oa ?ob; (case oa => rfl); (case ob => rfl); (case oN => k_asm); (case oc => rfl); (case om => k_mem); (case od => k_asm); k_whole) | (refine' nameX_C ?oN ?oc ?om ?od ?_ ?oa ?ob; (case oa => rfl); (case ob => rfl); (case oN => k_asm); (case oc => rfl); (case om => k_mem); (case od => k_asm); k_whole)))) | (with_reducible (show wpAny _ _ (newList _) _ _ _; k_here; k_dflt (refine' newList_K ?ok1 ?ok2 ?_ ?ok3; (case ok1 => k_asm); (case ok2 => k_asm); (case ok3 => exact sz_small rfl); k_whole); intro _ _ _ _ lz; (try k_lt lz); (try (revert lz; intro _)); (try k_sweep))) | (with_reducible (show wpAny _ _ (newTuple _) _ _ _; k_here; k_dflt (refine' kup_newTuple ?oF ?oN ?_ ?oz; (case oF => k_asm); (case oN => k_asm); (case oz => exact sz_small rfl); k_whole); intro _ _ _ _ lz; (try k_lt lz); (try (revert lz; intro _)); (try k_sweep))) | (with_reducible (show wpAny _ _ (subscriptTail _ _ (Value.ref _) (Value.int 0 _)) _ _ _; k_here; k_dflt (refine' sub_head ?ok1 ?ok2 ?_ ?ok7 ?ok8; (case ok1 => k_asm); (case ok2 => k_mem); (case ok7 => with_unfolding_all rfl); (case ok8 => (intro _; with_unfolding_all rfl)); k_whole))) | (with_reducible (show wpAny _ _ (subscriptTail _ _ (Value.ref _) (Value.int _ _)) _ _ _; k_here; k_dflt (refine' sub_ints ?ok1 ?ok2 ?ok3 ?ok4 ?ok5 ?ok6 ?_ ?ok7 ?ok8; (case ok1 => k_asm); (case ok2 => k_mem); (case ok3 => assumption); (case ok4 => first | exact le_pred (by assumption) (by assumption) | omega); (case ok5 => first | (simp only [stepsP_length]; first | exact lt_pred (by assumption) (by assumption) (by assumption) | omega) | (simp only [List.length_cons, List.length_nil]; omega)); (case ok6 => first | (simp only [stepsP_length]; first | assumption | omega) | (simp only [List.length_cons, List.length_nil]; omega)); (case ok7 => with_unfolding_all rfl); (case ok8 => (intro _; with_unfolding_all rfl)); k_whole); intro _ _ _)) | (with_reducible (show wpAny _ _ (subscriptTail _ _ (Value.ref _) (Value.int _ _)) _ _ _; k_here; k_dflt (refine' sub_refs ?ok1 ?ok2 ?ok3 ?ok4 ?ok5 ?_ ?ok6 ?ok7; (case ok1 => k_asm); (case ok2 => k_mem); (case ok3 => first | assumption | exact le_pred (by assumption) (by assumption) | omega); (case ok4 => first | assumption | exact lt_pred (by assumption) (by assumption) (by assumption) | omega); (case ok5 => first | assumption | omega); (case ok6 => with_unfolding_all rfl); (case ok7 => (intro _; with_unfolding_all rfl)); k_whole); intro _ ha'; (try simp only [Int.toNat_natCast] at ha'); revert ha'; intro _)) | walk1 | (dsimp only; walk1)))
            by_cases hy : las1[i] = g
            · rw [hy]
              refine wpAny_isNot_ref_self ?_
              (try dsimp only)
              repeat' (first | (k_unfold; (try dsimp only); repeat (first | clear ek | clear qk)) | ((fail_if_success (with_reducible show wpAny _ _ (exec (Stmt.While _ _ _ _) _) _ _ _)); (fail_if_success (with_reducible show wpAny _ _ (exec (Stmt.For _ _ _ _ _) _) _ _ _)); (fail_if_success (with_reducible show wpAny _ _ (eval (Expr.ListComp _ _ _ _) _) _ _ _)); (fail_if_success (with_reducible show wpAny _ _ (exec (Stmt.Assign _ (Expr.ListComp _ _ _ _) _) _) _ _ _)); (fail_if_success (with_reducible show wpAny _ _ (pyIter _) _ _ _)); (fail_if_success (with_reducible show wpAny _ _ (call (Value.ref _) _) _ _ _)); (fail_if_success (with_reducible show wpAny _ _ (setItem _ _ _) _ _ _)); (fail_if_success (with_reducible show wpAny _ _ (call (Value.builtin "list.append") _) _ _ _)); (fail_if_success (with_reducible show wpAny _ _ (call (Value.builtin "sorted") _) _ _ _)); (fail_if_success (with_reducible show wpAny _ _ (call (Value.type "list") _) _ _ _)); (fail_if_success (with_reducible show wpAny _ _ (compareOp _ (Value.ref _) (Value.ref _)) _ _ _)); (fail_if_success (with_reducible show wpAny _ _ (binaryOp _ (Value.ref _) (Value.ref _)) _ _ _)); first | ((first | (with_reducible show wpAny _ _ (exec _ _) _ _ _) | ((with_reducible show wpAny _ _ (eval _ _) _ _ _); (fail_if_success (with_reducible show wpAny _ _ (eval (PySem.Expr.Name _ _) _) _ _ _)); (fail_if_success (with_reducible show wpAny _ _ (eval (PySem.Expr.Constant _ _ _) _) _ _ _)); skip)); k_fold) | (with_reducible (show wpAny _ _ (binaryOp Operator.Add (Value.int _ _) (Value.int _ _)) _ _ _; k_here; (refine my_add ?_); intro _ _ _)) | (with_reducible (show wpAny _ _ (binaryOp Operator.Mult (Value.int _ _) (Value.int _ _)) _ _ _; k_here; (refine my_mul (by first | (left; decide) | (right; decide) | (left; assumption) | (right; assumption) | omega) ?_); intro _ _ _)) | (with_reducible (show wpAny _ _ (binaryOp Operator.Sub (Value.int _ _) (Value.int _ _)) _ _ _; k_here; (refine my_sub ?_); intro _ _ _)) | (with_reducible (show wpAny _ _ (call (Value.builtin "len") [Value.ref _]) _ _ _; k_here; k_dflt (refine' len_refs ?ok1 ?ok2 ?ok3 ?_; (case ok1 => k_asm); (case ok2 => k_mem); (case ok3 => first | assumption | omega); k_whole); intro _ _)) | (with_reducible (show wpAny _ _ (call (Value.type "range") _) _ _ _; k_here; k_dflt (first | (refine' my_range1 ?ok1 ?ok2 ?_; (case ok1 => k_asm); (case ok2 => k_asm); k_whole; intro _ _ _ _ _ _ _ _) | (refine' my_range2 ?ok1 ?ok2 ?_; (case ok1 => k_asm); (case ok2 => k_asm); k_whole; intro _ _ _ _ _ _ _)); (try k_sweep))) | (with_reducible (show wpAny _ _ (callWith _ (Value.ref _) _ _ _) _ _ _; k_here; k_dflt (first | (refine' callWith_K ?ok1 ?ok2 ?_; (case ok1 => k_asm); (case ok2 => k_is); k_whole) | (refine' callWith_K0 ?ok1 ?ok2 ?_; (case ok1 => k_in); (case ok2 => k_is); k_whole)))) | (with_reducible (show wpAny _ _ (eval (PySem.Expr.Name _ _) (compEnvC _ _ _ _)) _ _ _; k_here; k_dflt (first | (refine' ce_local ?oN ?om ?on ?ov ?_ ?oa ?ob; (case oa => rfl); (case ob => rfl); (case on => assumption); (case oN => k_asm); (case om => k_mem); (case ov => assumption); k_whole) | (refine' ce_cell ?oN ?oc ?om ?od ?_ ?oa ?ob; (case oa => rfl); (case ob => rfl); (case oN => k_asm); (case oc => rfl); (case om => k_mem); (case od => k_asm); k_whole) | (refine' ce_K ?oF ?oX ?oT ?oe ?_ ?og ?oa ?ob; (case og => rfl); (case oa => rfl); (case ob => rfl); (case oF => k_asm); (case oX => k_asm); (case oT => k_asm); (case oe => k_is); k_whole) | (refine' ce_B ?oF ?oX ?oT ?oe ?ov ?on ?_ ?og ?ogb ?oa ?ob; (case og => rfl); (case ogb => rfl); (case oa => rfl); (case ob => rfl); (case oF => k_asm); (case oX => k_asm); (case oT => k_asm); (case oe => k_is); (case ov => boot_fast); (case on => decide); k_whole)))) | (with_reducible (show wpAny _ _ (eval (PySem.Expr.Name _ _) _) _ _ _; k_here; k_dflt (first | (refine' nameX_F ?oN ?oc ?om ?od ?_ ?oa ?ob; (case oa => rfl); (case ob => rfl); (case oN => k_asm); (case oc => rfl); (case om => k_mem); (case od => k_asm); k_whole) | (refine' nameX_C ?oN ?oc ?om ?od ?_ ?oa ?ob; (case oa => rfl); (case ob => rfl); (case oN => k_asm); (case oc => rfl); (case om => k_mem); (case od => k_asm); k_whole)))) | (with_reducible (show wpAny _ _ (newList _) _ _ _; k_here; k_dflt (refine' newList_K ?ok1 ?ok2 ?_ ?ok3; (case ok1 => k_asm); (case ok2 => k_asm); (case ok3 => exact sz_small rfl); k_whole); intro _ _ _ _ lz; (try k_lt lz); (try (revert lz; intro _)); (try k_sweep))) | (with_reducible (show wpAny _ _ (newTuple _) _ _ _; k_here; k_dflt (refine' kup_newTuple ?oF ?oN ?_ ?oz; (case oF => k_asm); (case oN => k_asm); (case oz => exact sz_small rfl); k_whole); intro _ _ _ _ lz; (try k_lt lz); (try (revert lz; intro _)); (try k_sweep))) | (with_reducible (show wpAny _ _ (subscriptTail _ _ (Value.ref _) (Value.int 0 _)) _ _ _; k_here; k_dflt (refine' sub_head ?ok1 ?ok2 ?_ ?ok7 ?ok8; (case ok1 => k_asm); (case ok2 => k_mem); (case ok7 => with_unfolding_all rfl); (case ok8 => (intro _; with_unfolding_all rfl)); k_whole))) | (with_reducible (show wpAny _ _ (subscriptTail _ _ (Value.ref _) (Value.int _ _)) _ _ _; k_here; k_dflt (refine' sub_ints ?ok1 ?ok2 ?ok3 ?ok4 ?ok5 ?ok6 ?_ ?ok7 ?ok8; (case ok1 => k_asm); (case ok2 => k_mem); (case ok3 => assumption); (case ok4 => first | exact le_pred (by assumption) (by assumption) | omega); (case ok5 => first | (simp only [stepsP_length]; first | exact lt_pred (by assumption) (by assumption) (by assumption) | omega) | (simp only [List.length_cons, List.length_nil]; omega)); (case ok6 => first | (simp only [stepsP_length]; first | assumption | omega) | (simp only [List.length_cons, List.length_nil]; omega)); (case ok7 => with_unfolding_all rfl); (case ok8 => (intro _; with_unfolding_all rfl)); k_whole); intro _ _ _)) | (with_reducible (show wpAny _ _ (subscriptTail _ _ (Value.ref _) (Value.int _ _)) _ _ _; k_here; k_dflt (refine' sub_refs ?ok1 ?ok2 ?ok3 ?ok4 ?ok5 ?_ ?ok6 ?ok7; (case ok1 => k_asm); (case ok2 => k_mem); (case ok3 => first | assumption | exact le_pred (by assumption) (by assumption) | omega); (case ok4 => first | assumption | exact lt_pred (by assumption) (by assumption) (by assumption) | omega); (case ok5 => first | assumption | omega); (case ok6 => with_unfolding_all rfl); (case ok7 => (intro _; with_unfolding_all rfl)); k_whole); intro _ ha'; (try simp only [Int.toNat_natCast] at ha'); revert ha'; intro _)) | walk1 | (dsimp only; walk1)))
              refine comp_end _ F3 N3 (by k_mem) (by k_mem) (by k_mem) (fun p hp => ⟨by k_mem, sep p hp⟩) ⟨?_, rfl⟩
              rw [take_filter_ne hi, if_pos hy, List.append_nil]
            · obtain ⟨u1, u2, u3, u4, hu9⟩ := it9 (i + 1) (Nat.succ_pos i) (Nat.le_trans (Nat.succ_le_of_lt hi) (Nat.le_of_eq l1'))
              rw [adr_at (Nat.succ_pos i) (Nat.succ_le_of_lt hi)] at hu9
              simp only [Nat.add_sub_cancel] at hu9
              obtain ⟨x1, x2, x3, x4, hg9⟩ := it9 low hlow.1 hlow.2
              rw [← hg] at hg9
              refine wpAny_isNot_ref_other hy (N3 _ (List.mem_cons_of_mem _ (List.mem_cons_of_mem _ (List.mem_cons_of_mem _ hu9)))).1 (N3 _ (List.mem_cons_of_mem _ (List.mem_cons_of_mem _ (List.mem_cons_of_mem _ hg9)))).1 (fun h9 => by injection h9 with h9; exact absurd h9 (by decide)) ?_
              repeat' (first | (k_unfold; (try dsimp only); repeat (first | clear ek | clear qk)) | ((fail_if_success (with_reducible show wpAny _ _ (exec (Stmt.While _ _ _ _) _) _ _ _)); (fail_if_success (with_reducible show wpAny _ _ (exec (Stmt.For _ _ _ _ _) _) _ _ _)); (fail_if_success (with_reducible show wpAny _ _ (eval (Expr.ListComp _ _ _ _) _) _ _ _)); (fail_if_success (with_reducible show wpAny _ _ (exec (Stmt.Assign _ (Expr.ListComp _ _ _ _) _) _) _ _ _)); (fail_if_success (with_reducible show wpAny _ _ (pyIter _) _ _ _)); (fail_if_success (with_reducible show wpAny _ _ (call (Value.ref _) _) _ _ _)); (fail_if_success (with_reducible show wpAny _ _ (setItem _ _ _) _ _ _)); (fail_if_success (with_reducible show wpAny _ _ (call (Value.builtin "list.append") _) _ _ _)); (fail_if_success (with_reducible show wpAny _ _ (call (Value.builtin "sorted") _) _ _ _)); (fail_if_success (with_reducible show wpAny _ _ (call (Value.type "list") _) _ _ _)); (fail_if_success (with_reducible show wpAny _ _ (compareOp _ (Value.ref _) (Value.ref _)) _ _ _)); (fail_if_success (with_reducible show wpAny _ _ (binaryOp _ (Value.ref _) (Value.ref _)) _ _ _)); first | ((first | (with_reducible show wpAny _ _ (exec _ _) _ _ _) | ((with_reducible show wpAny _ _ (eval _ _) _ _ _); (fail_if_success (with_reducible show wpAny _ _ (eval (PySem.Expr.Name _ _) _) _ _ _)); (fail_if_success (with_reducible show wpAny _ _ (eval (PySem.Expr.Constant _ _ _) _) _ _ _)); skip)); k_fold) | (with_reducible (show wpAny _ _ (binaryOp Operator.Add (Value.int _ _) (Value.int _ _)) _ _ _; k_here; (refine my_add ?_); intro _ _ _)) | (with_reducible (show wpAny _ _ (binaryOp Operator.Mult (Value.int _ _) (Value.int _ _)) _ _ _; k_here; (refine my_mul (by first | (left; decide) | (right; decide) | (left; assumption) | (right; assumption) | omega) ?_); intro _ _ _)) | (with_reducible (show wpAny _ _ (binaryOp Operator.Sub (Value.int _ _) (Value.int _ _)) _ _ _; k_here; (refine my_sub ?_); intro _ _ _)) | (with_reducible (show wpAny _ _ (call (Value.builtin "len") [Value.ref _]) _ _ _; k_here; k_dflt (refine' len_refs ?ok1 ?ok2 ?ok3 ?_; (case ok1 => k_asm); (case ok2 => k_mem); (case ok3 => first | assumption | omega); k_whole); intro _ _)) | (with_reducible (show wpAny _ _ (call (Value.type "range") _) _ _ _; k_here; k_dflt (first | (refine' my_range1 ?ok1 ?ok2 ?_; (case ok1 => k_asm); (case ok2 => k_asm); k_whole; intro _ _ _ _ _ _ _ _) | (refine' my_range2 ?ok1 ?ok2 ?_; (case ok1 => k_asm); (case ok2 => k_asm); k_whole; intro _ _ _ _ _ _ _)); (try k_sweep))) | (with_reducible (show wpAny _ _ (callWith _ (Value.ref _) _ _ _) _ _ _; k_here; k_dflt (first | (refine' callWith_K ?ok1 ?ok2 ?_; (case ok1 => k_asm); (case ok2 => k_is); k_whole) | (refine' callWith_K0 ?ok1 ?ok2 ?_; (case ok1 => k_in); (case ok2 => k_is); k_whole)))) | (with_reducible (show wpAny _ _ (eval (PySem.Expr.Name _ _) (compEnvC _ _ _ _)) _ _ _; k_here; k_dflt (first | (refine' ce_local ?oN ?om ?on ?ov ?_ ?oa ?ob; (case oa => rfl); (case ob => rfl); (case on => assumption); (case oN => k_asm); (case om => k_mem); (case ov => assumption); k_whole) | (refine' ce_cell ?oN ?oc ?om ?od ?_ ?oa ?ob; (case oa => rfl); (case ob => rfl); (case oN => k_asm); (case oc => rfl); (case om => k_mem); (case od => k_asm); k_whole) | (refine' ce_K ?oF ?oX ?oT ?oe ?_ ?og ?oa ?ob; (case og => rfl); (case oa => rfl); (case ob => rfl); (case oF => k_asm); (case oX => k_asm); (case oT => k_asm); (case oe => k_is); k_whole) | (refine' ce_B ?oF ?oX ?oT ?oe ?ov ?on ?_ ?og ?ogb ?oa ?ob; (case og => rfl); (case ogb => rfl); (case oa => rfl); (case ob => rfl); (case oF => k_asm); (case oX => k_asm); (case oT => k_asm); (case oe => k_is); (case ov => boot_fast); (case on => decide); k_whole)))) | (with_reducible (show wpAny _ _ (eval (PySem.Expr.Name _ _) _) _ _ _; k_here; k_dflt (first | (refine' nameX_F ?oN ?oc ?om ?od ?_ ?oa ?ob; (case oa => rfl); (case ob => rfl); (case oN => k_asm); (case oc => rfl); (case om => k_mem); (case od => k_asm); k_whole) | (refine' nameX_C ?oN ?oc ?om ?od ?_ ?oa ?ob; (case oa => rfl); (case ob => rfl); (case oN => k_asm); (case oc => rfl); (case om => k_mem); (case od => k_asm); k_whole)))) | (with_reducible (show wpAny _ _ (newList _) _ _ _; k_here; k_dflt (refine' newList_K ?ok1 ?ok2 ?_ ?ok3; (case ok1 => k_asm); (case ok2 => k_asm); (case ok3 => exact sz_small rfl); k_whole); intro _ _ _ _ lz; (try k_lt lz); (try (revert lz; intro _)); (try k_sweep))) | (with_reducible (show wpAny _ _ (newTuple _) _ _ _; k_here; k_dflt (refine' kup_newTuple ?oF ?oN ?_ ?oz; (case oF => k_asm); (case oN => k_asm); (case oz => exact sz_small rfl); k_whole); intro _ _ _ _ lz; (try k_lt lz); (try (revert lz; intro _)); (try k_sweep))) | (with_reducible (show wpAny _ _ (subscriptTail _ _ (Value.ref _) (Value.int 0 _)) _ _ _; k_here; k_dflt (refine' sub_head ?ok1 ?ok2 ?_ ?ok7 ?ok8; (case ok1 => k_asm); (case ok2 => k_mem); (case ok7 => with_unfolding_all rfl); (case ok8 => (intro _; with_unfolding_all rfl)); k_whole))) | (with_reducible (show wpAny _ _ (subscriptTail _ _ (Value.ref _) (Value.int _ _)) _ _ _; k_here; k_dflt (refine' sub_ints ?ok1 ?ok2 ?ok3 ?ok4 ?ok5 ?ok6 ?_ ?ok7 ?ok8; (case ok1 => k_asm); (case ok2 => k_mem); (case ok3 => assumption); (case ok4 => first | exact le_pred (by assumption) (by assumption) | omega); (case ok5 => first | (simp only [stepsP_length]; first | exact lt_pred (by assumption) (by assumption) (by assumption) | omega) | (simp only [List.length_cons, List.length_nil]; omega)); (case ok6 => first | (simp only [stepsP_length]; first | assumption | omega) | (simp only [List.length_cons, List.length_nil]; omega)); (case ok7 => with_unfolding_all rfl); (case ok8 => (intro _; with_unfolding_all rfl)); k_whole); intro _ _ _)) | (with_reducible (show wpAny _ _ (subscriptTail _ _ (Value.ref _) (Value.int _ _)) _ _ _; k_here; k_dflt (refine' sub_refs ?ok1 ?ok2 ?ok3 ?ok4 ?ok5 ?_ ?ok6 ?ok7; (case ok1 => k_asm); (case ok2 => k_mem); (case ok3 => first | assumption | exact le_pred (by assumption) (by assumption) | omega); (case ok4 => first | assumption | exact lt_pred (by assumption) (by assumption) (by assumption) | omega); (case ok5 => first | assumption | omega); (case ok6 => with_unfolding_all rfl); (case ok7 => (intro _; with_unfolding_all rfl)); k_whole); intro _ ha'; (try simp only [Int.toNat_natCast] at ha'); revert ha'; intro _)) | walk1 | (dsimp only; walk1)))
              refine comp_end _ F3 N3 (by k_mem) (by k_mem) (by k_mem) (fun p hp => ⟨by k_mem, sep p hp⟩) ⟨?_, rfl⟩
              rw [take_filter_ne hi, if_neg hy, List.map_append]
              rfl
          case bdone =>
            rintro its led h tk C oC D8 e mC ⟨rfl, rfl⟩ F3 N3 nC sep hCD
            refine comp_none F3 N3 nC sep hCD ?_
            intro h4 F4 N4 hneD
            rw [List.length_map, List.take_length] at N4
            have hfl := List.length_filter_le (fun y => y != g) las1
            repeat' (first | (k_unfold; (try dsimp only); repeat (first | clear ek | clear qk)) | ((fail_if_success (with_reducible show wpAny _ _ (exec (Stmt.While _ _ _ _) _) _ _ _)); (fail_if_success (with_reducible show wpAny _ _ (exec (Stmt.For _ _ _ _ _) _) _ _ _)); (fail_if_success (with_reducible show wpAny _ _ (eval (Expr.ListComp _ _ _ _) _) _ _ _)); (fail_if_success (with_reducible show wpAny _ _ (exec (Stmt.Assign _ (Expr.ListComp _ _ _ _) _) _) _ _ _)); (fail_if_success (with_reducible show wpAny _ _ (pyIter _) _ _ _)); (fail_if_success (with_reducible show wpAny _ _ (call (Value.ref _) _) _ _ _)); (fail_if_success (with_reducible show wpAny _ _ (setItem _ _ _) _ _ _)); (fail_if_success (with_reducible show wpAny _ _ (call (Value.builtin "list.append") _) _ _ _)); (fail_if_success (with_reducible show wpAny _ _ (call (Value.builtin "sorted") _) _ _ _)); (fail_if_success (with_reducible show wpAny _ _ (call (Value.type "list") _) _ _ _)); (fail_if_success (with_reducible show wpAny _ _ (compareOp _ (Value.ref _) (Value.ref _)) _ _ _)); (fail_if_success (with_reducible show wpAny _ _ (binaryOp _ (Value.ref _) (Value.ref _)) _ _ _)); first | ((first | (with_reducible show wpAny _ _ (exec _ _) _ _ _) | ((with_reducible show wpAny _ _ (eval _ _) _ _ _); (fail_if_success (with_reducible show wpAny _ _ (eval (PySem.Expr.Name _ _) _) _ _ _)); (fail_if_success (with_reducible show wpAny _ _ (eval (PySem.Expr.Constant _ _ _) _) _ _ _)); skip)); k_fold) | (with_reducible (show wpAny _ _ (binaryOp Operator.Add (Value.int _ _) (Value.int _ _)) _ _ _; k_here; (refine my_add ?_); intro _ _ _)) | (with_reducible (show wpAny _ _ (binaryOp Operator.Mult (Value.int _ _) (Value.int _ _)) _ _ _; k_here; (refine my_mul (by first | (left; decide) | (right; decide) | (left; assumption) | (right; assumption) | omega) ?_); intro _ _ _)) | (with_reducible (show wpAny _ _ (binaryOp Operator.Sub (Value.int _ _) (Value.int _ _)) _ _ _; k_here; (refine my_sub ?_); intro _ _ _)) | (with_reducible (show wpAny _ _ (call (Value.builtin "len") [Value.ref _]) _ _ _; k_here; k_dflt (refine' len_refs ?ok1 ?ok2 ?ok3 ?_; (case ok1 => k_asm); (case ok2 => k_mem); (case ok3 => first | assumption | omega); k_whole); intro _ _)) | (with_reducible (show wpAny _ _ (call (Value.type "range") _) _ _ _; k_here; k_dflt (first | (refine' my_range1 ?ok1 ?ok2 ?_; (case ok1 => k_asm); (case ok2 => k_asm); k_whole; intro _ _ _ _ _ _ _ _) | (refine' my_range2 ?ok1 ?ok2 ?_; (case ok1 => k_asm); (case ok2 => k_asm); k_whole; intro _ _ _ _ _ _ _)); (try k_sweep))) | (with_reducible (show wpAny _ _ (callWith _ (Value.ref _) _ _ _) _ _ _; k_here; k_dflt (first | (refine' callWith_K ?ok1 ?ok2 ?_; (case ok1 => k_asm); (case ok2 => k_is); k_whole) | (refine' callWith_K0 ?ok1 ?ok2 ?_; (case ok1 => k_in); (case ok2 => k_is); k_whole)))) | (with_reducible (show wpAny _ _ (eval (PySem.Expr.Name _ _) (compEnvC _ _ _ _)) _ _ _; k_here; k_dflt (first | (refine' ce_local ?oN ?om ?on ?ov ?_ ?oa ?ob; (case oa => rfl); (case ob => rfl); (case on => assumption); (case oN => k_asm); (case om => k_mem); (case ov => assumption); k_whole) | (refine' ce_cell ?oN ?oc ?om ?od ?_ ?oa ?ob; (case oa => rfl); (case ob => rfl); (case oN => k_asm); (case oc => rfl); (case om => k_mem); (case od => k_asm); k_whole) | (refine' ce_K ?oF ?oX ?oT ?oe ?_ ?og ?oa ?ob; (case og => rfl); (case oa => rfl); (case ob => rfl); (case oF => k_asm); (case oX => k_asm); (case oT => k_asm); (case oe => k_is); k_whole) | (refine' ce_B ?oF ?oX ?oT ?oe ?ov ?on ?_ ?og ?ogb ?oa ?ob; (case og => rfl); (case ogb => rfl); (case oa => rfl); (case ob => rfl); (case oF => k_asm); (case oX => k_asm); (case oT => k_asm); (case oe => k_is); (case ov => boot_fast); (case on => decide); k_whole)))) | (with_reducible (show wpAny _ _ (eval (PySem.Expr.Name _ _) _) _ _ _; k_here; k_dflt (first | (refine' nameX_F ?oN ?oc ?om ?od ?_ ?oa ?ob; (case oa => rfl); (case ob => rfl); (case oN => k_asm); (case oc => rfl); (case om => k_mem); (case od => k_asm); k_whole) | (refine' nameX_C ?oN ?oc ?om ?od ?_ ?oa ?ob; (case oa => rfl); (case ob => rfl); (case oN => k_asm); (case oc => rfl); (case om => k_mem); (case od => k_asm); k_whole)))) | (with_reducible (show wpAny _ _ (newList _) _ _ _; k_here; k_dflt (refine' newList_K ?ok1 ?ok2 ?_ ?ok3; (case ok1 => k_asm); (case ok2 => k_asm); (case ok3 => exact sz_small rfl); k_whole); intro _ _ _ _ lz; (try k_lt lz); (try (revert lz; intro _)); (try k_sweep))) | (with_reducible (show wpAny _ _ (newTuple _) _ _ _; k_here; k_dflt (refine' kup_newTuple ?oF ?oN ?_ ?oz; (case oF => k_asm); (case oN => k_asm); (case oz => exact sz_small rfl); k_whole); intro _ _ _ _ lz; (try k_lt lz); (try (revert lz; intro _)); (try k_sweep))) | (with_reducible (show wpAny _ _ (subscriptTail _ _ (Value.ref _) (Value.int 0 _)) _ _ _; k_here; k_dflt (refine' sub_head ?ok1 ?ok2 ?_ ?ok7 ?ok8; (case ok1 => k_asm); (case ok2 => k_mem); (case ok7 => with_unfolding_all rfl); (case ok8 => (intro _; with_unfolding_all rfl)); k_whole))) | (with_reducible (show wpAny _ _ (subscriptTail _ _ (Value.ref _) (Value.int _ _)) _ _ _; k_here; k_dflt (refine' sub_ints ?ok1 ?ok2 ?ok3 ?ok4 ?ok5 ?ok6 ?_ ?ok7 ?ok8; (case ok1 => k_asm); (case ok2 => k_mem); (case ok3 => assumption); (case ok4 => first | exact le_pred (by assumption) (by assumption) | omega); (case ok5 => first | (simp only [stepsP_length]; first | exact lt_pred (by assumption) (by assumption) (by assumption) | omega) | (simp only [List.length_cons, List.length_nil]; omega)); (case ok6 => first | (simp only [stepsP_length]; first | assumption | omega) | (simp only [List.length_cons, List.length_nil]; omega)); (case ok7 => with_unfolding_all rfl); (case ok8 => (intro _; with_unfolding_all rfl)); k_whole); intro _ _ _)) | (with_reducible (show wpAny _ _ (subscriptTail _ _ (Value.ref _) (Value.int _ _)) _ _ _; k_here; k_dflt (refine' sub_refs ?ok1 ?ok2 ?ok3 ?ok4 ?ok5 ?_ ?ok6 ?ok7; (case ok1 => k_asm); (case ok2 => k_mem); (case ok3 => first | assumption | exact le_pred (by assumption) (by assumption) | omega); (case ok4 => first | assumption | exact lt_pred (by assumption) (by assumption) (by assumption) | omega); (case ok5 => first | assumption | omega); (case ok6 => with_unfolding_all rfl); (case ok7 => (intro _; with_unfolding_all rfl)); k_whole); intro _ ha'; (try simp only [Int.toNat_natCast] at ha'); revert ha'; intro _)) | walk1 | (dsimp only; walk1)))
            refine' my_add_lists (as := las1.filter (fun y => y != g)) (bs := [q]) ?q1 ?q2 ?q3 List.mem_cons_self ?q5 ?_
            case q1 => k_asm
            case q2 => k_asm
            case q3 => exact List.mem_cons_of_mem _ List.mem_cons_self
            case q5 =>
              rw [List.length_singleton]
              exact Nat.le_trans (Nat.succ_le_succ (Nat.le_trans hfl (Nat.le_trans (Nat.le_of_eq l1') hB))) (by decide)
            intro S h6 F6 N6
            have elr := laid_rest (q := q) nd' (Nat.le_trans (Nat.le_of_eq l1') hB) hlow.1 hlow3
            rw [← hg, l1'] at elr
            rw [elr] at N6
            repeat' (first | (k_unfold; (try dsimp only); repeat (first | clear ek | clear qk)) | ((fail_if_success (with_reducible show wpAny _ _ (exec (Stmt.While _ _ _ _) _) _ _ _)); (fail_if_success (with_reducible show wpAny _ _ (exec (Stmt.For _ _ _ _ _) _) _ _ _)); (fail_if_success (with_reducible show wpAny _ _ (eval (Expr.ListComp _ _ _ _) _) _ _ _)); (fail_if_success (with_reducible show wpAny _ _ (exec (Stmt.Assign _ (Expr.ListComp _ _ _ _) _) _) _ _ _)); (fail_if_success (with_reducible show wpAny _ _ (pyIter _) _ _ _)); (fail_if_success (with_reducible show wpAny _ _ (call (Value.ref _) _) _ _ _)); (fail_if_success (with_reducible show wpAny _ _ (setItem _ _ _) _ _ _)); (fail_if_success (with_reducible show wpAny _ _ (call (Value.builtin "list.append") _) _ _ _)); (fail_if_success (with_reducible show wpAny _ _ (call (Value.builtin "sorted") _) _ _ _)); (fail_if_success (with_reducible show wpAny _ _ (call (Value.type "list") _) _ _ _)); (fail_if_success (with_reducible show wpAny _ _ (compareOp _ (Value.ref _) (Value.ref _)) _ _ _)); (fail_if_success (with_reducible show wpAny _ _ (binaryOp _ (Value.ref _) (Value.ref _)) _ _ _)); first | ((first | (with_reducible show wpAny _ _ (exec _ _) _ _ _) | ((with_reducible show wpAny _ _ (eval _ _) _ _ _); (fail_if_success (with_reducible show wpAny _ _ (eval (PySem.Expr.Name _ _) _) _ _ _)); (fail_if_success (with_reducible show wpAny _ _ (eval (PySem.Expr.Constant _ _ _) _) _ _ _)); skip)); k_fold) | (with_reducible (show wpAny _ _ (binaryOp Operator.Add (Value.int _ _) (Value.int _ _)) _ _ _; k_here; (refine my_add ?_); intro _ _ _)) | (with_reducible (show wpAny _ _ (binaryOp Operator.Mult (Value.int _ _) (Value.int _ _)) _ _ _; k_here; (refine my_mul (by first | (left; decide) | (right; decide) | (left; assumption) | (right; assumption) | omega) ?_); intro _ _ _)) | (with_reducible (show wpAny _ _ (binaryOp Operator.Sub (Value.int _ _) (Value.int _ _)) _ _ _; k_here; (refine my_sub ?_); intro _ _ _)) | (with_reducible (show wpAny _ _ (call (Value.builtin "len") [Value.ref _]) _ _ _; k_here; k_dflt (refine' len_refs ?ok1 ?ok2 ?ok3 ?_; (case ok1 => k_asm); (case ok2 => k_mem); (case ok3 => first | assumption | omega); k_whole); intro _ _)) | (with_reducible (show wpAny _ _ (call (Value.type "range") _) _ _ _; k_here; k_dflt (first | (refine' my_range1 ?ok1 ?ok2 ?_; (case ok1 => k_asm); (case ok2 => k_asm); k_whole; intro _ _ _ _ _ _ _ _) | (refine' my_range2 ?ok1 ?ok2 ?_; (case ok1 => k_asm); (case ok2 => k_asm); k_whole; intro _ _ _ _ _ _ _)); (try k_sweep))) | (with_reducible (show wpAny _ _ (callWith _ (Value.ref _) _ _ _) _ _ _; k_here; k_dflt (first | (refine' callWith_K ?ok1 ?ok2 ?_; (case ok1 => k_asm); (case ok2 => k_is); k_whole) | (refine' callWith_K0 ?ok1 ?ok2 ?_; (case ok1 => k_in); (case ok2 => k_is); k_whole)))) | (with_reducible (show wpAny _ _ (eval (PySem.Expr.Name _ _) (compEnvC _ _ _ _)) _ _ _; k_here; k_dflt (first | (refine' ce_local ?oN ?om ?on ?ov ?_ ?oa ?ob; (case oa => rfl); (case ob => rfl); (case on => assumption); (case oN => k_asm); (case om => k_mem); (case ov => assumption); k_whole) | (refine' ce_cell ?oN ?oc ?om ?od ?_ ?oa ?ob; (case oa => rfl); (case ob => rfl); (case oN => k_asm); (case oc => rfl); (case om => k_mem); (case od => k_asm); k_whole) | (refine' ce_K ?oF ?oX ?oT ?oe ?_ ?og ?oa ?ob; (case og => rfl); (case oa => rfl); (case ob => rfl); (case oF => k_asm); (case oX => k_asm); (case oT => k_asm); (case oe => k_is); k_whole) | (refine' ce_B ?oF ?oX ?oT ?oe ?ov ?on ?_ ?og ?ogb ?oa ?ob; (case og => rfl); (case ogb => rfl); (case oa => rfl); (case ob => rfl); (case oF => k_asm); (case oX => k_asm); (case oT => k_asm); (case oe => k_is); (case ov => boot_fast); (case on => decide); k_whole)))) | (with_reducible (show wpAny _ _ (eval (PySem.Expr.Name _ _) _) _ _ _; k_here; k_dflt (first | (refine' nameX_F ?oN ?oc ?om ?od ?_ ?oa ?ob; (case oa => rfl); (case ob => rfl); (case oN => k_asm); (case oc => rfl); (case om => k_mem); (case od => k_asm); k_whole) | (refine' nameX_C ?oN ?oc ?om ?od ?_ ?oa ?ob; (case oa => rfl); (case ob => rfl); (case oN => k_asm); (case oc => rfl); (case om => k_mem); (case od => k_asm); k_whole)))) | (with_reducible (show wpAny _ _ (newList _) _ _ _; k_here; k_dflt (refine' newList_K ?ok1 ?ok2 ?_ ?ok3; (case ok1 => k_asm); (case ok2 => k_asm); (case ok3 => exact sz_small rfl); k_whole); intro _ _ _ _ lz; (try k_lt lz); (try (revert lz; intro _)); (try k_sweep))) | (with_reducible (show wpAny _ _ (newTuple _) _ _ _; k_here; k_dflt (refine' kup_newTuple ?oF ?oN ?_ ?oz; (case oF => k_asm); (case oN => k_asm); (case oz => exact sz_small rfl); k_whole); intro _ _ _ _ lz; (try k_lt lz); (try (revert lz; intro _)); (try k_sweep))) | (with_reducible (show wpAny _ _ (subscriptTail _ _ (Value.ref _) (Value.int 0 _)) _ _ _; k_here; k_dflt (refine' sub_head ?ok1 ?ok2 ?_ ?ok7 ?ok8; (case ok1 => k_asm); (case ok2 => k_mem); (case ok7 => with_unfolding_all rfl); (case ok8 => (intro _; with_unfolding_all rfl)); k_whole))) | (with_reducible (show wpAny _ _ (subscriptTail _ _ (Value.ref _) (Value.int _ _)) _ _ _; k_here; k_dflt (refine' sub_ints ?ok1 ?ok2 ?ok3 ?ok4 ?ok5 ?ok6 ?_ ?ok7 ?ok8; (case ok1 => k_asm); (case ok2 => k_mem); (case ok3 => assumption); (case ok4 => first | exact le_pred (by assumption) (by assumption) | omega); (case ok5 => first | (simp only [stepsP_length]; first | exact lt_pred (by assumption) (by assumption) (by assumption) | omega) | (simp only [List.length_cons, List.length_nil]; omega)); (case ok6 => first | (simp only [stepsP_length]; first | assumption | omega) | (simp only [List.length_cons, List.length_nil]; omega)); (case ok7 => with_unfolding_all rfl); (case ok8 => (intro _; with_unfolding_all rfl)); k_whole); intro _ _ _)) | (with_reducible (show wpAny _ _ (subscriptTail _ _ (Value.ref _) (Value.int _ _)) _ _ _; k_here; k_dflt (refine' sub_refs ?ok1 ?ok2 ?ok3 ?ok4 ?ok5 ?_ ?ok6 ?ok7; (case ok1 => k_asm); (case ok2 => k_mem); (case ok3 => first | assumption | exact le_pred (by assumption) (by assumption) | omega); (case ok4 => first | assumption | exact lt_pred (by assumption) (by assumption) (by assumption) | omega); (case ok5 => first | assumption | omega); (case ok6 => with_unfolding_all rfl); (case ok7 => (intro _; with_unfolding_all rfl)); k_whole); intro _ ha'; (try simp only [Int.toNat_natCast] at ha'); revert ha'; intro _)) | walk1 | (dsimp only; walk1)))
            refine' sorted_refs (lt := ltF his1 v) (key := keyF his1 las1 q v) ?q1 ?q2 List.mem_cons_self ?q4 (fun a b => ltF_adr9 (l2'.trans l1'.symm) nd' z' hfr.1 hfr.2 a b) ?q6 ?q7 ?q8 hsort2 ?_
            case q1 => k_asm
            case q2 => k_asm
            case q4 =>
              refine keysF l1' l2' nd' z' hfr.1 hfr.2 (fun l h1 h2 => ?_) (List.mem_cons_of_mem _ (List.mem_cons_of_mem _ (List.mem_cons_of_mem _ mq9))) (.cons _ _ (.cons _ _ (.cons _ _ .nil))) fun l hl => ?_
              · obtain ⟨t1, t2, t3, e, hm⟩ := it9 l h1 h2
                exact ⟨t1, t2, t3, e, List.mem_cons_of_mem _ (List.mem_cons_of_mem _ (List.mem_cons_of_mem _ hm))⟩
              · rcases List.mem_append.mp hl with h | h
                · obtain ⟨j, hj, rfl⟩ := List.mem_map.mp (List.mem_filter.mp h).1
                  have := List.mem_range.mp hj
                  exact .inr ⟨Nat.succ_pos j, Nat.succ_le_of_lt this⟩
                · exact .inl (List.mem_singleton.mp h)
            case q6 => simp
            case q7 =>
              have := List.length_filter_le (fun l => l != low) ((List.range B).map (· + 1))
              rw [List.length_map, List.length_range] at this
              rw [List.length_append, List.length_singleton]
              exact Nat.lt_of_le_of_lt (Nat.succ_le_succ (Nat.le_trans this hB)) (by decide)
            case q8 => first | ke_room | ktr_units
            intro T9 c9 h7 F7 N7 hT9
            repeat' (first | (k_unfold; (try dsimp only); repeat (first | clear ek | clear qk)) | ((fail_if_success (with_reducible show wpAny _ _ (exec (Stmt.While _ _ _ _) _) _ _ _)); (fail_if_success (with_reducible show wpAny _ _ (exec (Stmt.For _ _ _ _ _) _) _ _ _)); (fail_if_success (with_reducible show wpAny _ _ (eval (Expr.ListComp _ _ _ _) _) _ _ _)); (fail_if_success (with_reducible show wpAny _ _ (exec (Stmt.Assign _ (Expr.ListComp _ _ _ _) _) _) _ _ _)); (fail_if_success (with_reducible show wpAny _ _ (pyIter _) _ _ _)); (fail_if_success (with_reducible show wpAny _ _ (call (Value.ref _) _) _ _ _)); (fail_if_success (with_reducible show wpAny _ _ (setItem _ _ _) _ _ _)); (fail_if_success (with_reducible show wpAny _ _ (call (Value.builtin "list.append") _) _ _ _)); (fail_if_success (with_reducible show wpAny _ _ (call (Value.builtin "sorted") _) _ _ _)); (fail_if_success (with_reducible show wpAny _ _ (call (Value.type "list") _) _ _ _)); (fail_if_success (with_reducible show wpAny _ _ (compareOp _ (Value.ref _) (Value.ref _)) _ _ _)); (fail_if_success (with_reducible show wpAny _ _ (binaryOp _ (Value.ref _) (Value.ref _)) _ _ _)); first | ((first | (with_reducible show wpAny _ _ (exec _ _) _ _ _) | ((with_reducible show wpAny _ _ (eval _ _) _ _ _); (fail_if_success (with_reducible show wpAny _ _ (eval (PySem.Expr.Name _ _) _) _ _ _)); (fail_if_success (with_reducible show wpAny _ _ (eval (PySem.Expr.Constant _ _ _) _) _ _ _)); skip)); k_fold) | (with_reducible (show wpAny _ _ (binaryOp Operator.Add (Value.int _ _) (Value.int _ _)) _ _ _; k_here; (refine my_add ?_); intro _ _ _)) | (with_reducible (show wpAny _ _ (binaryOp Operator.Mult (Value.int _ _) (Value.int _ _)) _ _ _; k_here; (refine my_mul (by first | (left; decide) | (right; decide) | (left; assumption) | (right; assumption) | omega) ?_); intro _ _ _)) | (with_reducible (show wpAny _ _ (binaryOp Operator.Sub (Value.int _ _) (Value.int _ _)) _ _ _; k_here; (refine my_sub ?_); intro _ _ _)) | (with_reducible (show wpAny _ _ (call (Value.builtin "len") [Value.ref _]) _ _ _; k_here; k_dflt (refine' len_refs ?ok1 ?ok2 ?ok3 ?_; (case ok1 => k_asm); (case ok2 => k_mem); (case ok3 => first | assumption | omega); k_whole); intro _ _)) | (with_reducible (show wpAny _ _ (call (Value.type "range") _) _ _ _; k_here; k_dflt (first | (refine' my_range1 ?ok1 ?ok2 ?_; (case ok1 => k_asm); (case ok2 => k_asm); k_whole; intro _ _ _ _ _ _ _ _) | (refine' my_range2 ?ok1 ?ok2 ?_; (case ok1 => k_asm); (case ok2 => k_asm); k_whole; intro _ _ _ _ _ _ _)); (try k_sweep))) | (with_reducible (show wpAny _ _ (callWith _ (Value.ref _) _ _ _) _ _ _; k_here; k_dflt (first | (refine' callWith_K ?ok1 ?ok2 ?_; (case ok1 => k_asm); (case ok2 => k_is); k_whole) | (refine' callWith_K0 ?ok1 ?ok2 ?_; (case ok1 => k_in); (case ok2 => k_is); k_whole)))) | (with_reducible (show wpAny _ _ (eval (PySem.Expr.Name _ _) (compEnvC _ _ _ _)) _ _ _; k_here; k_dflt (first | (refine' ce_local ?oN ?om ?on ?ov ?_ ?oa ?ob; (case oa => rfl); (case ob => rfl); (case on => assumption); (case oN => k_asm); (case om => k_mem); (case ov => assumption); k_whole) | (refine' ce_cell ?oN ?oc ?om ?od ?_ ?oa ?ob; (case oa => rfl); (case ob => rfl); (case oN => k_asm); (case oc => rfl); (case om => k_mem); (case od => k_asm); k_whole) | (refine' ce_K ?oF ?oX ?oT ?oe ?_ ?og ?oa ?ob; (case og => rfl); (case oa => rfl); (case ob => rfl); (case oF => k_asm); (case oX => k_asm); (case oT => k_asm); (case oe => k_is); k_whole) | (refine' ce_B ?oF ?oX ?oT ?oe ?ov ?on ?_ ?og ?ogb ?oa ?ob; (case og => rfl); (case ogb => rfl); (case oa => rfl); (case ob => rfl); (case oF => k_asm); (case oX => k_asm); (case oT => k_asm); (case oe => k_is); (case ov => boot_fast); (case on => decide); k_whole)))) | (with_reducible (show wpAny _ _ (eval (PySem.Expr.Name _ _) _) _ _ _; k_here; k_dflt (first | (refine' nameX_F ?oN ?oc ?om ?od ?_ ?oa ?ob; (case oa => rfl); (case ob => rfl); (case oN => k_asm); (case oc => rfl); (case om => k_mem); (case od => k_asm); k_whole) | (refine' nameX_C ?oN ?oc ?om ?od ?_ ?oa ?ob; (case oa => rfl); (case ob => rfl); (case oN => k_asm); (case oc => rfl); (case om => k_mem); (case od => k_asm); k_whole)))) | (with_reducible (show wpAny _ _ (newList _) _ _ _; k_here; k_dflt (refine' newList_K ?ok1 ?ok2 ?_ ?ok3; (case ok1 => k_asm); (case ok2 => k_asm); (case ok3 => exact sz_small rfl); k_whole); intro _ _ _ _ lz; (try k_lt lz); (try (revert lz; intro _)); (try k_sweep))) | (with_reducible (show wpAny _ _ (newTuple _) _ _ _; k_here; k_dflt (refine' kup_newTuple ?oF ?oN ?_ ?oz; (case oF => k_asm); (case oN => k_asm); (case oz => exact sz_small rfl); k_whole); intro _ _ _ _ lz; (try k_lt lz); (try (revert lz; intro _)); (try k_sweep))) | (with_reducible (show wpAny _ _ (subscriptTail _ _ (Value.ref _) (Value.int 0 _)) _ _ _; k_here; k_dflt (refine' sub_head ?ok1 ?ok2 ?_ ?ok7 ?ok8; (case ok1 => k_asm); (case ok2 => k_mem); (case ok7 => with_unfolding_all rfl); (case ok8 => (intro _; with_unfolding_all rfl)); k_whole))) | (with_reducible (show wpAny _ _ (subscriptTail _ _ (Value.ref _) (Value.int _ _)) _ _ _; k_here; k_dflt (refine' sub_ints ?ok1 ?ok2 ?ok3 ?ok4 ?ok5 ?ok6 ?_ ?ok7 ?ok8; (case ok1 => k_asm); (case ok2 => k_mem); (case ok3 => assumption); (case ok4 => first | exact le_pred (by assumption) (by assumption) | omega); (case ok5 => first | (simp only [stepsP_length]; first | exact lt_pred (by assumption) (by assumption) (by assumption) | omega) | (simp only [List.length_cons, List.length_nil]; omega)); (case ok6 => first | (simp only [stepsP_length]; first | assumption | omega) | (simp only [List.length_cons, List.length_nil]; omega)); (case ok7 => with_unfolding_all rfl); (case ok8 => (intro _; with_unfolding_all rfl)); k_whole); intro _ _ _)) | (with_reducible (show wpAny _ _ (subscriptTail _ _ (Value.ref _) (Value.int _ _)) _ _ _; k_here; k_dflt (refine' sub_refs ?ok1 ?ok2 ?ok3 ?ok4 ?ok5 ?_ ?ok6 ?ok7; (case ok1 => k_asm); (case ok2 => k_mem); (case ok3 => first | assumption | exact le_pred (by assumption) (by assumption) | omega); (case ok4 => first | assumption | exact lt_pred (by assumption) (by assumption) (by assumption) | omega); (case ok5 => first | assumption | omega); (case ok6 => with_unfolding_all rfl); (case ok7 => (intro _; with_unfolding_all rfl)); k_whole); intro _ ha'; (try simp only [Int.toNat_natCast] at ha'); revert ha'; intro _)) | walk1 | (dsimp only; walk1)))
            refine wpAny_is_ref_self ?_
            (try dsimp only)
            repeat' (first | (k_unfold; (try dsimp only); repeat (first | clear ek | clear qk)) | ((fail_if_success (with_reducible show wpAny _ _ (exec (Stmt.While _ _ _ _) _) _ _ _)); (fail_if_success (with_reducible show wpAny _ _ (exec (Stmt.For _ _ _ _ _) _) _ _ _)); (fail_if_success (with_reducible show wpAny _ _ (eval (Expr.ListComp _ _ _ _) _) _ _ _)); (fail_if_success (with_reducible show wpAny _ _ (exec (Stmt.Assign _ (Expr.ListComp _ _ _ _) _) _) _ _ _)); (fail_if_success (with_reducible show wpAny _ _ (pyIter _) _ _ _)); (fail_if_success (with_reducible show wpAny _ _ (call (Value.ref _) _) _ _ _)); (fail_if_success (with_reducible show wpAny _ _ (setItem _ _ _) _ _ _)); (fail_if_success (with_reducible show wpAny _ _ (call (Value.builtin "list.append") _) _ _ _)); (fail_if_success (with_reducible show wpAny _ _ (call (Value.builtin "sorted") _) _ _ _)); (fail_if_success (with_reducible show wpAny _ _ (call (Value.type "list") _) _ _ _)); (fail_if_success (with_reducible show wpAny _ _ (compareOp _ (Value.ref _) (Value.ref _)) _ _ _)); (fail_if_success (with_reducible show wpAny _ _ (binaryOp _ (Value.ref _) (Value.ref _)) _ _ _)); first | ((first | (with_reducible show wpAny _ _ (exec _ _) _ _ _) | ((with_reducible show wpAny _ _ (eval _ _) _ _ _); (fail_if_success (with_reducible show wpAny _ _ (eval (PySem.Expr.Name _ _) _) _ _ _)); (fail_if_success (with_reducible show wpAny _ _ (eval (PySem.Expr.Constant _ _ _) _) _ _ _)); skip)); k_fold) | (with_reducible (show wpAny _ _ (binaryOp Operator.Add (Value.int _ _) (Value.int _ _)) _ _ _; k_here; (refine my_add ?_); intro _ _ _)) | (with_reducible (show wpAny _ _ (binaryOp Operator.Mult (Value.int _ _) (Value.int _ _)) _ _ _; k_here; (refine my_mul (by first | (left; decide) | (right; decide) | (left; assumption) | (right; assumption) | omega) ?_); intro _ _ _)) | (with_reducible (show wpAny _ _ (binaryOp Operator.Sub (Value.int _ _) (Value.int _ _)) _ _ _; k_here; (refine my_sub ?_); intro _ _ _)) | (with_reducible (show wpAny _ _ (call (Value.builtin "len") [Value.ref _]) _ _ _; k_here; k_dflt (refine' len_refs ?ok1 ?ok2 ?ok3 ?_; (case ok1 => k_asm); (case ok2 => k_mem); (case ok3 => first | assumption | omega); k_whole); intro _ _)) | (with_reducible (show wpAny _ _ (call (Value.type "range") _) _ _ _; k_here; k_dflt (first | (refine' my_range1 ?ok1 ?ok2 ?_; (case ok1 => k_asm); (case ok2 => k_asm); k_whole; intro _ _ _ _ _ _ _ _) | (refine' my_range2 ?ok1 ?ok2 ?_; (case ok1 => k_asm); (case ok2 => k_asm); k_whole; intro _ _ _ _ _ _ _)); (try k_sweep))) | (with_reducible (show wpAny _ _ (callWith _ (Value.ref _) _ _ _) _ _ _; k_here; k_dflt (first | (refine' callWith_K ?ok1 ?ok2 ?_; (case ok1 => k_asm); (case ok2 => k_is); k_whole) | (refine' callWith_K0 ?ok1 ?ok2 ?_; (case ok1 => k_in); (case ok2 => k_is); k_whole)))) | (with_reducible (show wpAny _ _ (eval (PySem.Expr.Name _ _) (compEnvC _ _ _ _)) _ _ _; k_here; k_dflt (first | (refine' ce_local ?oN ?om ?on ?ov ?_ ?oa ?ob; (case oa => rfl); (case ob => rfl); (case on => assumption); (case oN => k_asm); (case om => k_mem); (case ov => assumption); k_whole) | (refine' ce_cell ?oN ?oc ?om ?od ?_ ?oa ?ob; (case oa => rfl); (case ob => rfl); (case oN => k_asm); (case oc => rfl); (case om => k_mem); (case od => k_asm); k_whole) | (refine' ce_K ?oF ?oX ?oT ?oe ?_ ?og ?oa ?ob; (case og => rfl); (case oa => rfl); (case ob => rfl); (case oF => k_asm); (case oX => k_asm); (case oT => k_asm); (case oe => k_is); k_whole) | (refine' ce_B ?oF ?oX ?oT ?oe ?ov ?on ?_ ?og ?ogb ?oa ?ob; (case og => rfl); (case ogb => rfl); (case oa => rfl); (case ob => rfl); (case oF => k_asm); (case oX => k_asm); (case oT => k_asm); (case oe => k_is); (case ov => boot_fast); (case on => decide); k_whole)))) | (with_reducible (show wpAny _ _ (eval (PySem.Expr.Name _ _) _) _ _ _; k_here; k_dflt (first | (refine' nameX_F ?oN ?oc ?om ?od ?_ ?oa ?ob; (case oa => rfl); (case ob => rfl); (case oN => k_asm); (case oc => rfl); (case om => k_mem); (case od => k_asm); k_whole) | (refine' nameX_C ?oN ?oc ?om ?od ?_ ?oa ?ob; (case oa => rfl); (case ob => rfl); (case oN => k_asm); (case oc => rfl); (case om => k_mem); (case od => k_asm); k_whole)))) | (with_reducible (show wpAny _ _ (newList _) _ _ _; k_here; k_dflt (refine' newList_K ?ok1 ?ok2 ?_ ?ok3; (case ok1 => k_asm); (case ok2 => k_asm); (case ok3 => exact sz_small rfl); k_whole); intro _ _ _ _ lz; (try k_lt lz); (try (revert lz; intro _)); (try k_sweep))) | (with_reducible (show wpAny _ _ (newTuple _) _ _ _; k_here; k_dflt (refine' kup_newTuple ?oF ?oN ?_ ?oz; (case oF => k_asm); (case oN => k_asm); (case oz => exact sz_small rfl); k_whole); intro _ _ _ _ lz; (try k_lt lz); (try (revert lz; intro _)); (try k_sweep))) | (with_reducible (show wpAny _ _ (subscriptTail _ _ (Value.ref _) (Value.int 0 _)) _ _ _; k_here; k_dflt (refine' sub_head ?ok1 ?ok2 ?_ ?ok7 ?ok8; (case ok1 => k_asm); (case ok2 => k_mem); (case ok7 => with_unfolding_all rfl); (case ok8 => (intro _; with_unfolding_all rfl)); k_whole))) | (with_reducible (show wpAny _ _ (subscriptTail _ _ (Value.ref _) (Value.int _ _)) _ _ _; k_here; k_dflt (refine' sub_ints ?ok1 ?ok2 ?ok3 ?ok4 ?ok5 ?ok6 ?_ ?ok7 ?ok8; (case ok1 => k_asm); (case ok2 => k_mem); (case ok3 => assumption); (case ok4 => first | exact le_pred (by assumption) (by assumption) | omega); (case ok5 => first | (simp only [stepsP_length]; first | exact lt_pred (by assumption) (by assumption) (by assumption) | omega) | (simp only [List.length_cons, List.length_nil]; omega)); (case ok6 => first | (simp only [stepsP_length]; first | assumption | omega) | (simp only [List.length_cons, List.length_nil]; omega)); (case ok7 => with_unfolding_all rfl); (case ok8 => (intro _; with_unfolding_all rfl)); k_whole); intro _ _ _)) | (with_reducible (show wpAny _ _ (subscriptTail _ _ (Value.ref _) (Value.int _ _)) _ _ _; k_here; k_dflt (refine' sub_refs ?ok1 ?ok2 ?ok3 ?ok4 ?ok5 ?_ ?ok6 ?ok7; (case ok1 => k_asm); (case ok2 => k_mem); (case ok3 => first | assumption | exact le_pred (by assumption) (by assumption) | omega); (case ok4 => first | assumption | exact lt_pred (by assumption) (by assumption) (by assumption) | omega); (case ok5 => first | assumption | omega); (case ok6 => with_unfolding_all rfl); (case ok7 => (intro _; with_unfolding_all rfl)); k_whole); intro _ ha'; (try simp only [Int.toNat_natCast] at ha'); revert ha'; intro _)) | walk1 | (dsimp only; walk1)))
            refine wpAny_is_ref_self ?_
            (try dsimp only)
            repeat' (first | (k_unfold; (try dsimp only); repeat (first | clear ek | clear qk)) | ((fail_if_success (with_reducible show wpAny _ _ (exec (Stmt.While _ _ _ _) _) _ _ _)); (fail_if_success (with_reducible show wpAny _ _ (exec (Stmt.For _ _ _ _ _) _) _ _ _)); (fail_if_success (with_reducible show wpAny _ _ (eval (Expr.ListComp _ _ _ _) _) _ _ _)); (fail_if_success (with_reducible show wpAny _ _ (exec (Stmt.Assign _ (Expr.ListComp _ _ _ _) _) _) _ _ _)); (fail_if_success (with_reducible show wpAny _ _ (pyIter _) _ _ _)); (fail_if_success (with_reducible show wpAny _ _ (call (Value.ref _) _) _ _ _)); (fail_if_success (with_reducible show wpAny _ _ (setItem _ _ _) _ _ _)); (fail_if_success (with_reducible show wpAny _ _ (call (Value.builtin "list.append") _) _ _ _)); (fail_if_success (with_reducible show wpAny _ _ (call (Value.builtin "sorted") _) _ _ _)); (fail_if_success (with_reducible show wpAny _ _ (call (Value.type "list") _) _ _ _)); (fail_if_success (with_reducible show wpAny _ _ (compareOp _ (Value.ref _) (Value.ref _)) _ _ _)); (fail_if_success (with_reducible show wpAny _ _ (binaryOp _ (Value.ref _) (Value.ref _)) _ _ _)); first | ((first | (with_reducible show wpAny _ _ (exec _ _) _ _ _) | ((with_reducible show wpAny _ _ (eval _ _) _ _ _); (fail_if_success (with_reducible show wpAny _ _ (eval (PySem.Expr.Name _ _) _) _ _ _)); (fail_if_success (with_reducible show wpAny _ _ (eval (PySem.Expr.Constant _ _ _) _) _ _ _)); skip)); k_fold) | (with_reducible (show wpAny _ _ (binaryOp Operator.Add (Value.int _ _) (Value.int _ _)) _ _ _; k_here; (refine my_add ?_); intro _ _ _)) | (with_reducible (show wpAny _ _ (binaryOp Operator.Mult (Value.int _ _) (Value.int _ _)) _ _ _; k_here; (refine my_mul (by first | (left; decide) | (right; decide) | (left; assumption) | (right; assumption) | omega) ?_); intro _ _ _)) | (with_reducible (show wpAny _ _ (binaryOp Operator.Sub (Value.int _ _) (Value.int _ _)) _ _ _; k_here; (refine my_sub ?_); intro _ _ _)) | (with_reducible (show wpAny _ _ (call (Value.builtin "len") [Value.ref _]) _ _ _; k_here; k_dflt (refine' len_refs ?ok1 ?ok2 ?ok3 ?_; (case ok1 => k_asm); (case ok2 => k_mem); (case ok3 => first | assumption | omega); k_whole); intro _ _)) | (with_reducible (show wpAny _ _ (call (Value.type "range") _) _ _ _; k_here; k_dflt (first | (refine' my_range1 ?ok1 ?ok2 ?_; (case ok1 => k_asm); (case ok2 => k_asm); k_whole; intro _ _ _ _ _ _ _ _) | (refine' my_range2 ?ok1 ?ok2 ?_; (case ok1 => k_asm); (case ok2 => k_asm); k_whole; intro _ _ _ _ _ _ _)); (try k_sweep))) | (with_reducible (show wpAny _ _ (callWith _ (Value.ref _) _ _ _) _ _ _; k_here; k_dflt (first | (refine' callWith_K ?ok1 ?ok2 ?_; (case ok1 => k_asm); (case ok2 => k_is); k_whole) | (refine' callWith_K0 ?ok1 ?ok2 ?_; (case ok1 => k_in); (case ok2 => k_is); k_whole)))) | (with_reducible (show wpAny _ _ (eval (PySem.Expr.Name _ _) (compEnvC _ _ _ _)) _ _ _; k_here; k_dflt (first | (refine' ce_local ?oN ?om ?on ?ov ?_ ?oa ?ob; (case oa => rfl); (case ob => rfl); (case on => assumption); (case oN => k_asm); (case om => k_mem); (case ov => assumption); k_whole) | (refine' ce_cell ?oN ?oc ?om ?od ?_ ?oa ?ob; (case oa => rfl); (case ob => rfl); (case oN => k_asm); (case oc => rfl); (case om => k_mem); (case od => k_asm); k_whole) | (refine' ce_K ?oF ?oX ?oT ?oe ?_ ?og ?oa ?ob; (case og => rfl); (case oa => rfl); (case ob => rfl); (case oF => k_asm); (case oX => k_asm); (case oT => k_asm); (case oe => k_is); k_whole) | (refine' ce_B ?oF ?oX ?oT ?oe ?ov ?on ?_ ?og ?ogb ?oa ?ob; (case og => rfl); (case ogb => rfl); (case oa => rfl); (case ob => rfl); (case oF => k_asm); (case oX => k_asm); (case oT => k_asm); (case oe => k_is); (case ov => boot_fast); (case on => decide); k_whole)))) | (with_reducible (show wpAny _ _ (eval (PySem.Expr.Name _ _) _) _ _ _; k_here; k_dflt (first | (refine' nameX_F ?oN ?oc ?om ?od ?_ ?oa ?ob; (case oa => rfl); (case ob => rfl); (case oN => k_asm); (case oc => rfl); (case om => k_mem); (case od => k_asm); k_whole) | (refine' nameX_C ?oN ?oc ?om ?od ?_ ?oa ?ob; (case oa => rfl); (case ob => rfl); (case oN => k_asm); (case oc => rfl); (case om => k_mem); (case od => k_asm); k_whole)))) | (with_reducible (show wpAny _ _ (newList _) _ _ _; k_here; k_dflt (refine' newList_K ?ok1 ?ok2 ?_ ?ok3; (case ok1 => k_asm); (case ok2 => k_asm); (case ok3 => exact sz_small rfl); k_whole); intro _ _ _ _ lz; (try k_lt lz); (try (revert lz; intro _)); (try k_sweep))) | (with_reducible (show wpAny _ _ (newTuple _) _ _ _; k_here; k_dflt (refine' kup_newTuple ?oF ?oN ?_ ?oz; (case oF => k_asm); (case oN => k_asm); (case oz => exact sz_small rfl); k_whole); intro _ _ _ _ lz; (try k_lt lz); (try (revert lz; intro _)); (try k_sweep))) | (with_reducible (show wpAny _ _ (subscriptTail _ _ (Value.ref _) (Value.int 0 _)) _ _ _; k_here; k_dflt (refine' sub_head ?ok1 ?ok2 ?_ ?ok7 ?ok8; (case ok1 => k_asm); (case ok2 => k_mem); (case ok7 => with_unfolding_all rfl); (case ok8 => (intro _; with_unfolding_all rfl)); k_whole))) | (with_reducible (show wpAny _ _ (subscriptTail _ _ (Value.ref _) (Value.int _ _)) _ _ _; k_here; k_dflt (refine' sub_ints ?ok1 ?ok2 ?ok3 ?ok4 ?ok5 ?ok6 ?_ ?ok7 ?ok8; (case ok1 => k_asm); (case ok2 => k_mem); (case ok3 => assumption); (case ok4 => first | exact le_pred (by assumption) (by assumption) | omega); (case ok5 => first | (simp only [stepsP_length]; first | exact lt_pred (by assumption) (by assumption) (by assumption) | omega) | (simp only [List.length_cons, List.length_nil]; omega)); (case ok6 => first | (simp only [stepsP_length]; first | assumption | omega) | (simp only [List.length_cons, List.length_nil]; omega)); (case ok7 => with_unfolding_all rfl); (case ok8 => (intro _; with_unfolding_all rfl)); k_whole); intro _ _ _)) | (with_reducible (show wpAny _ _ (subscriptTail _ _ (Value.ref _) (Value.int _ _)) _ _ _; k_here; k_dflt (refine' sub_refs ?ok1 ?ok2 ?ok3 ?ok4 ?ok5 ?_ ?ok6 ?ok7; (case ok1 => k_asm); (case ok2 => k_mem); (case ok3 => first | assumption | exact le_pred (by assumption) (by assumption) | omega); (case ok4 => first | assumption | exact lt_pred (by assumption) (by assumption) (by assumption) | omega); (case ok5 => first | assumption | omega); (case ok6 => with_unfolding_all rfl); (case ok7 => (intro _; with_unfolding_all rfl)); k_whole); intro _ ha'; (try simp only [Int.toNat_natCast] at ha'); revert ha'; intro _)) | walk1 | (dsimp only; walk1)))
            refine' sorted_refs (as := 9 :: tt) (f := adr9 las1 q) (n := e5') (lt := ltF his1 v) (key := keyF his1 las1 q v) ?q1 ?q2 ?q3 ?q4 (fun a b => ltF_adr9 (l2'.trans l1'.symm) nd' z' hfr.1 hfr.2 a b) ?q6 ?q7 ?q8 (by rw [← htop]; exact hsort1) ?_
            case q1 => k_asm
            case q2 => k_asm
            case q3 => exact List.mem_cons_of_mem _ (List.mem_cons_of_mem _ (List.mem_cons_of_mem _ (List.mem_cons_of_mem _ m9)))
            case q4 =>
              refine keysF l1' l2' nd' z' hfr.1 hfr.2 (fun l h1 h2 => ?_) (List.mem_cons_of_mem _ (List.mem_cons_of_mem _ (List.mem_cons_of_mem _ (List.mem_cons_of_mem _ mq9)))) (.cons _ _ (.cons _ _ (.cons _ _ .nil))) fun l hl => ?_
              · obtain ⟨t1, t2, t3, e, hm⟩ := it9 l h1 h2
                exact ⟨t1, t2, t3, e, List.mem_cons_of_mem _ (List.mem_cons_of_mem _ (List.mem_cons_of_mem _ (List.mem_cons_of_mem _ hm)))⟩
              · exact siftup_sub9 hr9 l (htop ▸ hl)
            case q6 => simp
            case q7 =>
              have e1 := congrArg List.length htop
              rw [siftup_length] at e1
              have e2 : (low :: rest).length = B := hl'
              simp only [List.length_cons] at e1 e2 ⊢
              exact Nat.lt_of_le_of_lt (Nat.le_trans (Nat.le_of_eq (e1.symm.trans e2)) hB) (by decide)
            case q8 => first | ke_room | ktr_units
            intro T8 c8 h8 F8 N8 hT8
            repeat' (first | (k_unfold; (try dsimp only); repeat (first | clear ek | clear qk)) | ((fail_if_success (with_reducible show wpAny _ _ (exec (Stmt.While _ _ _ _) _) _ _ _)); (fail_if_success (with_reducible show wpAny _ _ (exec (Stmt.For _ _ _ _ _) _) _ _ _)); (fail_if_success (with_reducible show wpAny _ _ (eval (Expr.ListComp _ _ _ _) _) _ _ _)); (fail_if_success (with_reducible show wpAny _ _ (exec (Stmt.Assign _ (Expr.ListComp _ _ _ _) _) _) _ _ _)); (fail_if_success (with_reducible show wpAny _ _ (pyIter _) _ _ _)); (fail_if_success (with_reducible show wpAny _ _ (call (Value.ref _) _) _ _ _)); (fail_if_success (with_reducible show wpAny _ _ (setItem _ _ _) _ _ _)); (fail_if_success (with_reducible show wpAny _ _ (call (Value.builtin "list.append") _) _ _ _)); (fail_if_success (with_reducible show wpAny _ _ (call (Value.builtin "sorted") _) _ _ _)); (fail_if_success (with_reducible show wpAny _ _ (call (Value.type "list") _) _ _ _)); (fail_if_success (with_reducible show wpAny _ _ (compareOp _ (Value.ref _) (Value.ref _)) _ _ _)); (fail_if_success (with_reducible show wpAny _ _ (binaryOp _ (Value.ref _) (Value.ref _)) _ _ _)); first | ((first | (with_reducible show wpAny _ _ (exec _ _) _ _ _) | ((with_reducible show wpAny _ _ (eval _ _) _ _ _); (fail_if_success (with_reducible show wpAny _ _ (eval (PySem.Expr.Name _ _) _) _ _ _)); (fail_if_success (with_reducible show wpAny _ _ (eval (PySem.Expr.Constant _ _ _) _) _ _ _)); skip)); k_fold) | (with_reducible (show wpAny _ _ (binaryOp Operator.Add (Value.int _ _) (Value.int _ _)) _ _ _; k_here; (refine my_add ?_); intro _ _ _)) | (with_reducible (show wpAny _ _ (binaryOp Operator.Mult (Value.int _ _) (Value.int _ _)) _ _ _; k_here; (refine my_mul (by first | (left; decide) | (right; decide) | (left; assumption) | (right; assumption) | omega) ?_); intro _ _ _)) | (with_reducible (show wpAny _ _ (binaryOp Operator.Sub (Value.int _ _) (Value.int _ _)) _ _ _; k_here; (refine my_sub ?_); intro _ _ _)) | (with_reducible (show wpAny _ _ (call (Value.builtin "len") [Value.ref _]) _ _ _; k_here; k_dflt (refine' len_refs ?ok1 ?ok2 ?ok3 ?_; (case ok1 => k_asm); (case ok2 => k_mem); (case ok3 => first | assumption | omega); k_whole); intro _ _)) | (with_reducible (show wpAny _ _ (call (Value.type "range") _) _ _ _; k_here; k_dflt (first | (refine' my_range1 ?ok1 ?ok2 ?_; (case ok1 => k_asm); (case ok2 => k_asm); k_whole; intro _ _ _ _ _ _ _ _) | (refine' my_range2 ?ok1 ?ok2 ?_; (case ok1 => k_asm); (case ok2 => k_asm); k_whole; intro _ _ _ _ _ _ _)); (try k_sweep))) | (with_reducible (show wpAny _ _ (callWith _ (Value.ref _) _ _ _) _ _ _; k_here; k_dflt (first | (refine' callWith_K ?ok1 ?ok2 ?_; (case ok1 => k_asm); (case ok2 => k_is); k_whole) | (refine' callWith_K0 ?ok1 ?ok2 ?_; (case ok1 => k_in); (case ok2 => k_is); k_whole)))) | (with_reducible (show wpAny _ _ (eval (PySem.Expr.Name _ _) (compEnvC _ _ _ _)) _ _ _; k_here; k_dflt (first | (refine' ce_local ?oN ?om ?on ?ov ?_ ?oa ?ob; (case oa => rfl); (case ob => rfl); (case on => assumption); (case oN => k_asm); (case om => k_mem); (case ov => assumption); k_whole) | (refine' ce_cell ?oN ?oc ?om ?od ?_ ?oa ?ob; (case oa => rfl); (case ob => rfl); (case oN => k_asm); (case oc => rfl); (case om => k_mem); (case od => k_asm); k_whole) | (refine' ce_K ?oF ?oX ?oT ?oe ?_ ?og ?oa ?ob; (case og => rfl); (case oa => rfl); (case ob => rfl); (case oF => k_asm); (case oX => k_asm); (case oT => k_asm); (case oe => k_is); k_whole) | (refine' ce_B ?oF ?oX ?oT ?oe ?ov ?on ?_ ?og ?ogb ?oa ?ob; (case og => rfl); (case ogb => rfl); (case oa => rfl); (case ob => rfl); (case oF => k_asm); (case oX => k_asm); (case oT => k_asm); (case oe => k_is); (case ov => boot_fast); (case on => decide); k_whole)))) | (with_reducible (show wpAny _ _ (eval (PySem.Expr.Name _ _) _) _ _ _; k_here; k_dflt (first | (refine' nameX_F ?oN ?oc ?om ?od ?_ ?oa ?ob; (case oa => rfl); (case ob => rfl); (case oN => k_asm); (case oc => rfl); (case om => k_mem); (case od => k_asm); k_whole) | (refine' nameX_C ?oN ?oc ?om ?od ?_ ?oa ?ob; (case oa => rfl); (case ob => rfl); (case oN => k_asm); (case oc => rfl); (case om => k_mem); (case od => k_asm); k_whole)))) | (with_reducible (show wpAny _ _ (newList _) _ _ _; k_here; k_dflt (refine' newList_K ?ok1 ?ok2 ?_ ?ok3; (case ok1 => k_asm); (case ok2 => k_asm); (case ok3 => exact sz_small rfl); k_whole); intro _ _ _ _ lz; (try k_lt lz); (try (revert lz; intro _)); (try k_sweep))) | (with_reducible (show wpAny _ _ (newTuple _) _ _ _; k_here; k_dflt (refine' kup_newTuple ?oF ?oN ?_ ?oz; (case oF => k_asm); (case oN => k_asm); (case oz => exact sz_small rfl); k_whole); intro _ _ _ _ lz; (try k_lt lz); (try (revert lz; intro _)); (try k_sweep))) | (with_reducible (show wpAny _ _ (subscriptTail _ _ (Value.ref _) (Value.int 0 _)) _ _ _; k_here; k_dflt (refine' sub_head ?ok1 ?ok2 ?_ ?ok7 ?ok8; (case ok1 => k_asm); (case ok2 => k_mem); (case ok7 => with_unfolding_all rfl); (case ok8 => (intro _; with_unfolding_all rfl)); k_whole))) | (with_reducible (show wpAny _ _ (subscriptTail _ _ (Value.ref _) (Value.int _ _)) _ _ _; k_here; k_dflt (refine' sub_ints ?ok1 ?ok2 ?ok3 ?ok4 ?ok5 ?ok6 ?_ ?ok7 ?ok8; (case ok1 => k_asm); (case ok2 => k_mem); (case ok3 => assumption); (case ok4 => first | exact le_pred (by assumption) (by assumption) | omega); (case ok5 => first | (simp only [stepsP_length]; first | exact lt_pred (by assumption) (by assumption) (by assumption) | omega) | (simp only [List.length_cons, List.length_nil]; omega)); (case ok6 => first | (simp only [stepsP_length]; first | assumption | omega) | (simp only [List.length_cons, List.length_nil]; omega)); (case ok7 => with_unfolding_all rfl); (case ok8 => (intro _; with_unfolding_all rfl)); k_whole); intro _ _ _)) | (with_reducible (show wpAny _ _ (subscriptTail _ _ (Value.ref _) (Value.int _ _)) _ _ _; k_here; k_dflt (refine' sub_refs ?ok1 ?ok2 ?ok3 ?ok4 ?ok5 ?_ ?ok6 ?ok7; (case ok1 => k_asm); (case ok2 => k_mem); (case ok3 => first | assumption | exact le_pred (by assumption) (by assumption) | omega); (case ok4 => first | assumption | exact lt_pred (by assumption) (by assumption) (by assumption) | omega); (case ok5 => first | assumption | omega); (case ok6 => with_unfolding_all rfl); (case ok7 => (intro _; with_unfolding_all rfl)); k_whole); intro _ ha'; (try simp only [Int.toNat_natCast] at ha'); revert ha'; intro _)) | walk1 | (dsimp only; walk1)))
            refine eq_refs N8 List.mem_cons_self (List.mem_cons_of_mem _ List.mem_cons_self) (by first | ke_room | ktr_units) ?_
            repeat' (first | (k_unfold; (try dsimp only); repeat (first | clear ek | clear qk)) | ((fail_if_success (with_reducible show wpAny _ _ (exec (Stmt.While _ _ _ _) _) _ _ _)); (fail_if_success (with_reducible show wpAny _ _ (exec (Stmt.For _ _ _ _ _) _) _ _ _)); (fail_if_success (with_reducible show wpAny _ _ (eval (Expr.ListComp _ _ _ _) _) _ _ _)); (fail_if_success (with_reducible show wpAny _ _ (exec (Stmt.Assign _ (Expr.ListComp _ _ _ _) _) _) _ _ _)); (fail_if_success (with_reducible show wpAny _ _ (pyIter _) _ _ _)); (fail_if_success (with_reducible show wpAny _ _ (call (Value.ref _) _) _ _ _)); (fail_if_success (with_reducible show wpAny _ _ (setItem _ _ _) _ _ _)); (fail_if_success (with_reducible show wpAny _ _ (call (Value.builtin "list.append") _) _ _ _)); (fail_if_success (with_reducible show wpAny _ _ (call (Value.builtin "sorted") _) _ _ _)); (fail_if_success (with_reducible show wpAny _ _ (call (Value.type "list") _) _ _ _)); (fail_if_success (with_reducible show wpAny _ _ (compareOp _ (Value.ref _) (Value.ref _)) _ _ _)); (fail_if_success (with_reducible show wpAny _ _ (binaryOp _ (Value.ref _) (Value.ref _)) _ _ _)); first | ((first | (with_reducible show wpAny _ _ (exec _ _) _ _ _) | ((with_reducible show wpAny _ _ (eval _ _) _ _ _); (fail_if_success (with_reducible show wpAny _ _ (eval (PySem.Expr.Name _ _) _) _ _ _)); (fail_if_success (with_reducible show wpAny _ _ (eval (PySem.Expr.Constant _ _ _) _) _ _ _)); skip)); k_fold) | (with_reducible (show wpAny _ _ (binaryOp Operator.Add (Value.int _ _) (Value.int _ _)) _ _ _; k_here; (refine my_add ?_); intro _ _ _)) | (with_reducible (show wpAny _ _ (binaryOp Operator.Mult (Value.int _ _) (Value.int _ _)) _ _ _; k_here; (refine my_mul (by first | (left; decide) | (right; decide) | (left; assumption) | (right; assumption) | omega) ?_); intro _ _ _)) | (with_reducible (show wpAny _ _ (binaryOp Operator.Sub (Value.int _ _) (Value.int _ _)) _ _ _; k_here; (refine my_sub ?_); intro _ _ _)) | (with_reducible (show wpAny _ _ (call (Value.builtin "len") [Value.ref _]) _ _ _; k_here; k_dflt (refine' len_refs ?ok1 ?ok2 ?ok3 ?_; (case ok1 => k_asm); (case ok2 => k_mem); (case ok3 => first | assumption | omega); k_whole); intro _ _)) | (with_reducible (show wpAny _ _ (call (Value.type "range") _) _ _ _; k_here; k_dflt (first | (refine' my_range1 ?ok1 ?ok2 ?_; (case ok1 => k_asm); (case ok2 => k_asm); k_whole; intro _ _ _ _ _ _ _ _) | (refine' my_range2 ?ok1 ?ok2 ?_; (case ok1 => k_asm); (case ok2 => k_asm); k_whole; intro _ _ _ _ _ _ _)); (try k_sweep))) | (with_reducible (show wpAny _ _ (callWith _ (Value.ref _) _ _ _) _ _ _; k_here; k_dflt (first | (refine' callWith_K ?ok1 ?ok2 ?_; (case ok1 => k_asm); (case ok2 => k_is); k_whole) | (refine' callWith_K0 ?ok1 ?ok2 ?_; (case ok1 => k_in); (case ok2 => k_is); k_whole)))) | (with_reducible (show wpAny _ _ (eval (PySem.Expr.Name _ _) (compEnvC _ _ _ _)) _ _ _; k_here; k_dflt (first | (refine' ce_local ?oN ?om ?on ?ov ?_ ?oa ?ob; (case oa => rfl); (case ob => rfl); (case on => assumption); (case oN => k_asm); (case om => k_mem); (case ov => assumption); k_whole) | (refine' ce_cell ?oN ?oc ?om ?od ?_ ?oa ?ob; (case oa => rfl); (case ob => rfl); (case oN => k_asm); (case oc => rfl); (case om => k_mem); (case od => k_asm); k_whole) | (refine' ce_K ?oF ?oX ?oT ?oe ?_ ?og ?oa ?ob; (case og => rfl); (case oa => rfl); (case ob => rfl); (case oF => k_asm); (case oX => k_asm); (case oT => k_asm); (case oe => k_is); k_whole) | (refine' ce_B ?oF ?oX ?oT ?oe ?ov ?on ?_ ?og ?ogb ?oa ?ob; (case og => rfl); (case ogb => rfl); (case oa => rfl); (case ob => rfl); (case oF => k_asm); (case oX => k_asm); (case oT => k_asm); (case oe => k_is); (case ov => boot_fast); (case on => decide); k_whole)))) | (with_reducible (show wpAny _ _ (eval (PySem.Expr.Name _ _) _) _ _ _; k_here; k_dflt (first | (refine' nameX_F ?oN ?oc ?om ?od ?_ ?oa ?ob; (case oa => rfl); (case ob => rfl); (case oN => k_asm); (case oc => rfl); (case om => k_mem); (case od => k_asm); k_whole) | (refine' nameX_C ?oN ?oc ?om ?od ?_ ?oa ?ob; (case oa => rfl); (case ob => rfl); (case oN => k_asm); (case oc => rfl); (case om => k_mem); (case od => k_asm); k_whole)))) | (with_reducible (show wpAny _ _ (newList _) _ _ _; k_here; k_dflt (refine' newList_K ?ok1 ?ok2 ?_ ?ok3; (case ok1 => k_asm); (case ok2 => k_asm); (case ok3 => exact sz_small rfl); k_whole); intro _ _ _ _ lz; (try k_lt lz); (try (revert lz; intro _)); (try k_sweep))) | (with_reducible (show wpAny _ _ (newTuple _) _ _ _; k_here; k_dflt (refine' kup_newTuple ?oF ?oN ?_ ?oz; (case oF => k_asm); (case oN => k_asm); (case oz => exact sz_small rfl); k_whole); intro _ _ _ _ lz; (try k_lt lz); (try (revert lz; intro _)); (try k_sweep))) | (with_reducible (show wpAny _ _ (subscriptTail _ _ (Value.ref _) (Value.int 0 _)) _ _ _; k_here; k_dflt (refine' sub_head ?ok1 ?ok2 ?_ ?ok7 ?ok8; (case ok1 => k_asm); (case ok2 => k_mem); (case ok7 => with_unfolding_all rfl); (case ok8 => (intro _; with_unfolding_all rfl)); k_whole))) | (with_reducible (show wpAny _ _ (subscriptTail _ _ (Value.ref _) (Value.int _ _)) _ _ _; k_here; k_dflt (refine' sub_ints ?ok1 ?ok2 ?ok3 ?ok4 ?ok5 ?ok6 ?_ ?ok7 ?ok8; (case ok1 => k_asm); (case ok2 => k_mem); (case ok3 => assumption); (case ok4 => first | exact le_pred (by assumption) (by assumption) | omega); (case ok5 => first | (simp only [stepsP_length]; first | exact lt_pred (by assumption) (by assumption) (by assumption) | omega) | (simp only [List.length_cons, List.length_nil]; omega)); (case ok6 => first | (simp only [stepsP_length]; first | assumption | omega) | (simp only [List.length_cons, List.length_nil]; omega)); (case ok7 => with_unfolding_all rfl); (case ok8 => (intro _; with_unfolding_all rfl)); k_whole); intro _ _ _)) | (with_reducible (show wpAny _ _ (subscriptTail _ _ (Value.ref _) (Value.int _ _)) _ _ _; k_here; k_dflt (refine' sub_refs ?ok1 ?ok2 ?ok3 ?ok4 ?ok5 ?_ ?ok6 ?ok7; (case ok1 => k_asm); (case ok2 => k_mem); (case ok3 => first | assumption | exact le_pred (by assumption) (by assumption) | omega); (case ok4 => first | assumption | exact lt_pred (by assumption) (by assumption) (by assumption) | omega); (case ok5 => first | assumption | omega); (case ok6 => with_unfolding_all rfl); (case ok7 => (intro _; with_unfolding_all rfl)); k_whole); intro _ ha'; (try simp only [Int.toNat_natCast] at ha'); revert ha'; intro _)) | walk1 | (dsimp only; walk1)))
            refine hret _ _ _ _ (by assumption) (by assumption) ⟨No, nas, e6', rfl, ?_, ?_, ?_, ?_⟩
            · exact List.mem_cons_of_mem _ (List.mem_cons_of_mem _ (List.mem_cons_of_mem _ (List.mem_cons_of_mem _ (List.mem_cons_of_mem _ m69))))
            · exact pr9.mono fun a p q tp tq h => List.mem_cons_of_mem _ (List.mem_cons_of_mem _ (List.mem_cons_of_mem _ (List.mem_cons_of_mem _ (List.mem_cons_of_mem _ h))))
            · exact tb9.sub fun q hq => List.mem_cons_of_mem _ (List.mem_cons_of_mem _ (List.mem_cons_of_mem _ (List.mem_cons_of_mem _ (List.mem_cons_of_mem _ hq))))
            · exact fun p hp hs => List.mem_cons_of_mem _ (List.mem_cons_of_mem _ (List.mem_cons_of_mem _ (List.mem_cons_of_mem _ (List.mem_cons_of_mem _ (kp9 p hp hs)))))
end
section

theorem toldLoop_length (B : Nat) : ∀ (n : Nat) (x h : Int) (b l : Nat), (toldLoop B n x h b l).length ≤ n * B
  | 0, x, h, b, l => Nat.zero_le _
  | n + 1, x, h, b, l => by
    unfold toldLoop
    have e1 : (toldRow x b (B / b)).length = B / b := by simp [toldRow]
    have e2 := Nat.div_le_self B b
    have e3 := toldLoop_length B n h (((B + b) / l : Nat) * h - x) l ((B + b) / l * l - b)
    rw [List.length_append, e1, Nat.succ_mul]
    omega
theorem toldP_length (B : Nat) (x : Int) (b : Nat) : (toldP B x b).length ≤ 7 * B := toldLoop_length B 7 _ _ _ _
theorem common_coprime {x : Int} {b c : Nat} (hb : 1 ≤ b) (hc : 1 ≤ c) (hcb : c ∣ b) (hcx : (c : Int) ∣ x) (hmax : ∀ k : Nat, 1 ≤ k → k ≤ b → k ∣ b → (k : Int) ∣ x → k ≤ c) :
    Nat.gcd ((x / (c : Int)) % ((b / c : Nat) : Int)).toNat (b / c) = 1 := by
  obtain ⟨y, rfl⟩ := hcb
  obtain ⟨z, rfl⟩ := hcx
  rw [Nat.mul_div_cancel_left y hc, Int.mul_ediv_cancel_left z (by omega)]
  have hy : 1 ≤ y := by
    rcases Nat.eq_zero_or_pos y with h | h
    · rw [h] at hb
      omega
    · exact h
  have hm : 0 ≤ z % (y : Int) := Int.emod_nonneg _ (by omega)
  generalize hg : Nat.gcd (z % (y : Int)).toNat y = g
  have g1 : g ∣ y := hg ▸ Nat.gcd_dvd_right _ _
  have g2 : g ∣ (z % (y : Int)).toNat := hg ▸ Nat.gcd_dvd_left _ _
  have g3 : (g : Int) ∣ z % (y : Int) := by
    rw [← Int.toNat_of_nonneg hm]
    exact Int.natCast_dvd_natCast.mpr g2
  have g4 : (g : Int) ∣ z := by
    rw [← Int.emod_add_mul_ediv z y]
    exact Int.dvd_add g3 (Int.dvd_trans (Int.natCast_dvd_natCast.mpr g1) (Int.dvd_mul_right _ _))
  have hg1 : 1 ≤ g := Nat.pos_of_dvd_of_pos g1 hy
  have k1 : c * g ∣ c * y := Nat.mul_dvd_mul_left c g1
  have k2 : ((c * g : Nat) : Int) ∣ (c : Int) * z := by
    rw [Int.natCast_mul]
    exact Int.mul_dvd_mul_left _ g4
  have k3 := hmax (c * g) (Nat.mul_pos hc hg1) (Nat.le_of_dvd hb k1) k1 k2
  have k4 : c * g ≤ c * 1 := by omega
  have := Nat.le_of_mul_le_mul_left k4 hc
  omega
theorem lawP_parts {B b : Nat} {x : Int} (h : lawP B x b = true) : (∃ i : Nat, i < B ∧ (x * ((i : Int) + 1) + 1) % (b : Int) = 0) ∧
    ∃ his hs, nRun B (toldP B x b).length (his0 B x b) (heapLoop (ltI (his0 B x b)) (B / 2) ((List.range B).map (· + 1))) [] = some (his, hs, toldP B x b) ∧ nFinal B his hs = true := by
  unfold lawP at h
  rw [Bool.and_eq_true] at h
  obtain ⟨h1, h2⟩ := h
  refine ⟨?_, ?_⟩
  · obtain ⟨i, hi, hz⟩ := List.any_eq_true.mp h1
    exact ⟨i, List.mem_range.mp hi, of_decide_eq_true hz⟩
  · cases hr : nRun B (toldP B x b).length (his0 B x b) (heapLoop (ltI (his0 B x b)) (B / 2) ((List.range B).map (· + 1))) [] with
    | none => rw [hr] at h2; cases h2
    | some r =>
      rw [hr] at h2
      obtain ⟨his, hs, acc⟩ := r
      simp only [Bool.and_eq_true] at h2
      exact ⟨his, hs, by rw [eq_of_beq h2.1], h2.2⟩

section
variable {prog : Program} {w : World} {A : Around} {E : Value → Shared → Prop} {s : Shared} {h₀ : Heap} {L a b : Addr} {led : Led} {Q : Value → Shared → Prop}
theorem pairs_at {led : Led} {as bs : List Addr} {ps : List (Int × Int)} (P : PairsAre led as ps) : PairsAre led bs ps → ∀ (j : Nat) (h1 : j < as.length) (h2 : j < bs.length), ∃ p q tp tq up uq, (as[j], tupOf [.int p tp, .int q tq]) ∈ led ∧ (bs[j], tupOf [.int p up, .int q uq]) ∈ led := by
  induction P generalizing bs with
  | nil => exact fun _ j h1 _ => absurd h1 (Nat.not_lt_zero _)
  | cons x1 r1 ih =>
    intro h2 j i1 i2
    cases h2 with
    | cons x2 r2 =>
      cases j with
      | zero => exact ⟨_, _, _, _, _, _, x1, x2⟩
      | succ j => exact ih r2 j (Nat.lt_of_succ_lt_succ i1) (Nat.lt_of_succ_lt_succ i2)
theorem eq_pairs {as bs : List Addr} {ps : List (Int × Int)} {n1 n2 : Nat} (N : News h₀ L s.heap led) (ha : (a, refs as n1) ∈ led) (hb : (b, refs bs n2) ∈ led) (h1 : PairsAre led as ps) (h2 : PairsAre led bs ps) (hu : A.units < cLine) (hu1 : A.in1.units < cLine) (h : Q (.bool true) s) :
    wpAny (model prog w) A (compareOp .Eq (.ref a) (.ref b)) Q E s := by
  have l1 := h1.length
  have l2 := h2.length
  refine SeqAt.eq_listAt (e := fun _ => true) (items := (as.map Value.ref).toArray) (items2 := (bs.map Value.ref).toArray) ⟨_, (N _ ha).1, rfl, n1, rfl⟩ ⟨_, (N _ hb).1, rfl, n2, rfl⟩ (by simp [l1, l2]) hu (fun j j1 j2 => ?_) ?_
  · have i1 : j < as.length := by simpa using j1
    have i2 : j < bs.length := by simpa using j2
    obtain ⟨p, q, tp, tq, up, uq, m1, m2⟩ := pairs_at h1 h2 j i1 i2
    have e1 : (as.map Value.ref).toArray[j] = .ref as[j] := by simp
    have e2 : (bs.map Value.ref).toArray[j] = .ref bs[j] := by simp
    rw [e1, e2]
    by_cases he : as[j] = bs[j]
    · rw [he]
      exact SeqAt.EqAt.same _
    · refine SeqAt.EqAt.of_refs he ?_
      have r := SeqAt.RcAt.tuples (A := A.in1) (s := s) (l := as[j]) (b := bs[j]) (items := [Value.int p tp, Value.int q tq].toArray) (items2 := [Value.int p up, Value.int q uq].toArray) (e := fun _ => true)
        ⟨_, (N _ m1).1, rfl, 0, rfl⟩ ⟨_, (N _ m2).1, rfl, 0, rfl⟩ hu1 (fun i i1 i2 => ?_)
      · exact r
      · match i, i1 with
        | 0, _ =>
          have := SeqAt.EqAt.int_int (A := A.in1.in1) (s := s) p tp p up
          rwa [beq_self_eq_true] at this
        | 1, _ =>
          have := SeqAt.EqAt.int_int (A := A.in1.in1) (s := s) q tq q uq
          rwa [beq_self_eq_true] at this
  · have e : ((List.range (as.map Value.ref).toArray.size).all fun _ => true) = true := by simp
    rw [e]
    exact h
end

def comP (x : Int) (b i : Nat) : Bool := decide ((b : Int) % ((i : Int) + 1) = 0) && decide (x % ((i : Int) + 1) = 0)
abbrev comL (x : Int) (b i : Nat) : List Int := ((List.range i).filter (comP x b)).map fun i : Nat => (i : Int) + 1
theorem comL_yes {x : Int} {b i : Nat} {its : List Value} {tv : Tok} (hi : IntsAre its (comL x b i)) (h1 : (b : Int) % (1 + (i : Int)) = 0) (h2 : x % (1 + (i : Int)) = 0) : IntsAre (its ++ [Value.int (1 + (i : Int)) tv]) (comL x b (i + 1)) := by
  have hp : comP x b i = true := by
    unfold comP
    rw [Int.add_comm (i : Int) 1, h1, h2]
    rfl
  unfold comL
  rw [List.range_succ, List.filter_append, List.map_append]
  have e9 : [i].filter (comP x b) = [i] := by simp only [List.filter_cons, hp, if_true, List.filter_nil]
  rw [e9]
  refine ints_append hi ?_
  show IntsAre [Value.int (1 + (i : Int)) tv] [(i : Int) + 1]
  rw [Int.add_comm]
  exact ints_one _ _
theorem comL_no {x : Int} {b i : Nat} {its : List Value} (hi : IntsAre its (comL x b i)) (h : (b : Int) % (1 + (i : Int)) ≠ 0 ∨ x % (1 + (i : Int)) ≠ 0) : IntsAre its (comL x b (i + 1)) := by
  have hp : comP x b i = false := by
    unfold comP
    rw [Int.add_comm (i : Int) 1]
    rcases h with h | h
    · simp [h]
    · simp [h]
  unfold comL
  rw [List.range_succ, List.filter_append, List.map_append]
  have e9 : [i].filter (comP x b) = [] := by simp only [List.filter_cons, hp, Bool.false_eq_true, if_false, List.filter_nil]
  rw [e9]
  simpa using hi
theorem comP_dvd {x : Int} {b i : Nat} : comP x b i = true ↔ (i + 1) ∣ b ∧ ((i + 1 : Nat) : Int) ∣ x := by
  unfold comP
  rw [Bool.and_eq_true, decide_eq_true_eq, decide_eq_true_eq]
  have e : (i : Int) + 1 = ((i + 1 : Nat) : Int) := by omega
  rw [e]
  constructor
  · rintro ⟨h1, h2⟩
    exact ⟨Int.natCast_dvd_natCast.mp (Int.dvd_of_emod_eq_zero h1), Int.dvd_of_emod_eq_zero h2⟩
  · rintro ⟨h1, h2⟩
    exact ⟨Int.emod_eq_zero_of_dvd (Int.natCast_dvd_natCast.mpr h1), Int.emod_eq_zero_of_dvd h2⟩
theorem comL_pos {x : Int} {b : Nat} (hb : 1 ≤ b) : 0 < (comL x b b).length := by
  refine List.length_pos_of_mem (a := ((0 : Nat) : Int) + 1) (List.mem_map.mpr ⟨0, List.mem_filter.mpr ⟨List.mem_range.mpr hb, comP_dvd.mpr ⟨Nat.one_dvd _, Int.one_dvd _⟩⟩, rfl⟩)
theorem common_of {x M : Int} {b : Nat} (h : M ∈ comL x b b) (hmax : ∀ a, a ∈ comL x b b → a ≤ M) :
    ∃ c : Nat, M = (c : Int) ∧ 1 ≤ c ∧ c ≤ b ∧ c ∣ b ∧ (c : Int) ∣ x ∧ ∀ k : Nat, 1 ≤ k → k ≤ b → k ∣ b → (k : Int) ∣ x → k ≤ c := by
  obtain ⟨i, hi, rfl⟩ := List.mem_map.mp h
  have h1 := List.mem_filter.mp hi
  have h2 := comP_dvd.mp h1.2
  have h3 := List.mem_range.mp h1.1
  refine ⟨i + 1, by omega, by omega, by omega, h2.1, h2.2, fun k k1 k2 k3 k4 => ?_⟩
  have e : k - 1 + 1 = k := by omega
  have := hmax (((k - 1 : Nat) : Int) + 1) (List.mem_map.mpr ⟨k - 1, List.mem_filter.mpr ⟨List.mem_range.mpr (by omega), comP_dvd.mpr ⟨by rw [e]; exact k3, by rw [e]; exact k4⟩⟩, rfl⟩)
  omega
end
section

set_option maxHeartbeats 0 in
theorem law_holds : PySem.Challenge.rw_op0097_01.Holds := hd (by
  k_go0
  (all_goals try k_fold)
  repeat' (first | (k_unfold; (try dsimp only); repeat (first | clear ek | clear qk)) | ((fail_if_success (with_reducible show wpAny _ _ (exec (Stmt.While _ _ _ _) _) _ _ _)); (fail_if_success (with_reducible show wpAny _ _ (exec (Stmt.For _ _ _ _ _) _) _ _ _)); (fail_if_success (with_reducible show wpAny _ _ (eval (Expr.ListComp _ _ _ _) _) _ _ _)); (fail_if_success (with_reducible show wpAny _ _ (exec (Stmt.Assign _ (Expr.ListComp _ _ _ _) _) _) _ _ _)); (fail_if_success (with_reducible show wpAny _ _ (pyIter _) _ _ _)); (fail_if_success (with_reducible show wpAny _ _ (call (Value.ref _) _) _ _ _)); (fail_if_success (with_reducible show wpAny _ _ (setItem _ _ _) _ _ _)); (fail_if_success (with_reducible show wpAny _ _ (call (Value.builtin "list.append") _) _ _ _)); (fail_if_success (with_reducible show wpAny _ _ (call (Value.builtin "sorted") _) _ _ _)); (fail_if_success (with_reducible show wpAny _ _ (call (Value.type "list") _) _ _ _)); (fail_if_success (with_reducible show wpAny _ _ (compareOp _ (Value.ref _) (Value.ref _)) _ _ _)); (fail_if_success (with_reducible show wpAny _ _ (call (Value.builtin "max") _) _ _ _)); first | ((first | (with_reducible show wpAny _ _ (exec _ _) _ _ _) | ((with_reducible show wpAny _ _ (eval _ _) _ _ _); (fail_if_success (with_reducible show wpAny _ _ (eval (PySem.Expr.Name _ _) _) _ _ _)); (fail_if_success (with_reducible show wpAny _ _ (eval (PySem.Expr.Constant _ _ _) _) _ _ _)); (fail_if_success (with_reducible show wpAny _ _ (eval (PySem.Expr.Subscript _ _ _) _) _ _ _)); (fail_if_success (with_reducible show wpAny _ _ (subscriptTail _ _ _ _) _ _ _)); (fail_if_success (with_reducible show wpAny _ _ (eval (PySem.Expr.Slice _ _ _ _) _) _ _ _)); (fail_if_success (with_reducible show wpAny _ _ (evalPart _ _) _ _ _)); skip)); k_fold) | (with_reducible (show wpAny _ _ (binaryOp Operator.Add (Value.int _ _) (Value.int _ _)) _ _ _; k_here; (refine my_add ?_); intro _ _ _)) | (with_reducible (show wpAny _ _ (binaryOp Operator.FloorDiv (Value.int _ _) (Value.int _ _)) _ _ _; k_here; (refine my_floordiv (by first | assumption | omega) (by first | assumption | omega) ?_); intro _ _ _)) | (with_reducible (show wpAny _ _ (binaryOp Operator.Mod (Value.int _ _) (Value.int _ _)) _ _ _; k_here; (refine my_mod (by first | assumption | exact one_add_pos (by assumption) (by assumption) | omega) ?_); intro _ _ _)) | (with_reducible (show wpAny _ _ (binaryOp Operator.Sub (Value.int _ _) (Value.int _ _)) _ _ _; k_here; (refine my_sub ?_); intro _ _ _)) | (with_reducible (show wpAny _ _ (call (Value.builtin "len") [Value.ref _]) _ _ _; k_here; k_dflt (refine' len_refs ?ok1 ?ok2 ?ok3 ?_; (case ok1 => k_asm); (case ok2 => k_mem); (case ok3 => first | assumption | omega); k_whole); intro _ _)) | (with_reducible (show wpAny _ _ (call (Value.type "range") _) _ _ _; k_here; k_dflt (first | (refine' my_range1 ?ok1 ?ok2 ?_; (case ok1 => k_asm); (case ok2 => k_asm); k_whole; intro _ _ _ _ _ _ _ _) | (refine' my_range2 ?ok1 ?ok2 ?_; (case ok1 => k_asm); (case ok2 => k_asm); k_whole; intro _ _ _ _ _ _ _)); (try k_sweep))) | (with_reducible (show wpAny _ _ (callWith _ (Value.ref _) _ _ _) _ _ _; k_here; k_dflt (first | (refine' callWith_K ?ok1 ?ok2 ?_; (case ok1 => k_asm); (case ok2 => k_is); k_whole) | (refine' callWith_K0 ?ok1 ?ok2 ?_; (case ok1 => k_in); (case ok2 => k_is); k_whole)))) | (with_reducible (show wpAny _ _ (eval (PySem.Expr.Name _ _) (compEnvC _ _ _ _)) _ _ _; k_here; k_dflt (first | (refine' ce_local ?oN ?om ?on ?ov ?_ ?oa ?ob; (case oa => rfl); (case ob => rfl); (case on => assumption); (case oN => k_asm); (case om => k_mem); (case ov => assumption); k_whole) | (refine' ce_cell ?oN ?oc ?om ?od ?_ ?oa ?ob; (case oa => rfl); (case ob => rfl); (case oN => k_asm); (case oc => rfl); (case om => k_mem); (case od => k_asm); k_whole) | (refine' ce_K ?oF ?oX ?oT ?oe ?_ ?og ?oa ?ob; (case og => rfl); (case oa => rfl); (case ob => rfl); (case oF => k_asm); (case oX => k_asm); (case oT => k_asm); (case oe => k_is); k_whole) | (refine' ce_B ?oF ?oX ?oT ?oe ?ov ?on ?_ ?og ?ogb ?oa ?ob; (case og => rfl); (case ogb => rfl); (case oa => rfl); (case ob => rfl); (case oF => k_asm); (case oX => k_asm); (case oT => k_asm); (case oe => k_is); (case ov => boot_fast); (case on => decide); k_whole)))) | (with_reducible (show wpAny _ _ (eval (PySem.Expr.Name _ _) _) _ _ _; k_here; k_dflt (first | (refine' nameX_F ?oN ?oc ?om ?od ?_ ?oa ?ob; (case oa => rfl); (case ob => rfl); (case oN => k_asm); (case oc => rfl); (case om => k_mem); (case od => k_asm); k_whole) | (refine' nameX_C ?oN ?oc ?om ?od ?_ ?oa ?ob; (case oa => rfl); (case ob => rfl); (case oN => k_asm); (case oc => rfl); (case om => k_mem); (case od => k_asm); k_whole)))) | (with_reducible (show wpAny _ _ (newList _) _ _ _; k_here; k_dflt (refine' newList_K ?ok1 ?ok2 ?_ ?ok3; (case ok1 => k_asm); (case ok2 => k_asm); (case ok3 => exact sz_small rfl); k_whole); intro _ _ _ _ lz; (try k_lt lz); (try (revert lz; intro _)); (try k_sweep))) | (with_reducible (show wpAny _ _ (newTuple _) _ _ _; k_here; k_dflt (refine' kup_newTuple ?oF ?oN ?_ ?oz; (case oF => k_asm); (case oN => k_asm); (case oz => exact sz_small rfl); k_whole); intro _ _ _ _ lz; (try k_lt lz); (try (revert lz; intro _)); (try k_sweep))) | (with_reducible (show wpAny _ _ (subscriptTail (PySem.Expr.BinOp _ _ _ _) _ _ _) _ _ _; k_here; k_dflt (refine kba_turn (value' := PySem.Expr.Name (PySem.Str.ofString "k") ⟨0, 0, 0, 0⟩) (fun _ => rfl) ?_))) | walk1 | (dsimp only; walk1)))
  rename_i v8 hv8 tv8 v7 hv7 tv7 Bi hBi tB _ _ _ v5 hv5 tv5 v4 hv4 tv4 bi hbi tb _ v2 hv2 tv2 v1 hv1 tv1 x hx tx Dt _ l1 _ _ o1 d1 _ o2 lF lN d2 _ _
  have b1 := law_B hv7 hBi
  have b3 := law_b hv4 hbi b1
  have hx2 := law_x hv1 hx
  clear hv8 hv7 hBi hv5 hv4 hbi hv2 hv1 hx
  obtain ⟨B, rfl⟩ := ex_nat b1.1
  obtain ⟨b, rfl⟩ := ex_nat b3.1
  have hB := nat_box b1
  have hb := nat_box2 b3
  clear b1 b3
  k_dflt (refine' comp_eval ?zc ?zk ?zn ?_; (case zc => rfl); (case zk => rfl); (case zn => decide))
  repeat' (first | (k_unfold; (try dsimp only); repeat (first | clear ek | clear qk)) | ((fail_if_success (with_reducible show wpAny _ _ (exec (Stmt.While _ _ _ _) _) _ _ _)); (fail_if_success (with_reducible show wpAny _ _ (exec (Stmt.For _ _ _ _ _) _) _ _ _)); (fail_if_success (with_reducible show wpAny _ _ (eval (Expr.ListComp _ _ _ _) _) _ _ _)); (fail_if_success (with_reducible show wpAny _ _ (exec (Stmt.Assign _ (Expr.ListComp _ _ _ _) _) _) _ _ _)); (fail_if_success (with_reducible show wpAny _ _ (pyIter _) _ _ _)); (fail_if_success (with_reducible show wpAny _ _ (call (Value.ref _) _) _ _ _)); (fail_if_success (with_reducible show wpAny _ _ (setItem _ _ _) _ _ _)); (fail_if_success (with_reducible show wpAny _ _ (call (Value.builtin "list.append") _) _ _ _)); (fail_if_success (with_reducible show wpAny _ _ (call (Value.builtin "sorted") _) _ _ _)); (fail_if_success (with_reducible show wpAny _ _ (call (Value.type "list") _) _ _ _)); (fail_if_success (with_reducible show wpAny _ _ (compareOp _ (Value.ref _) (Value.ref _)) _ _ _)); (fail_if_success (with_reducible show wpAny _ _ (call (Value.builtin "max") _) _ _ _)); first | ((first | (with_reducible show wpAny _ _ (exec _ _) _ _ _) | ((with_reducible show wpAny _ _ (eval _ _) _ _ _); (fail_if_success (with_reducible show wpAny _ _ (eval (PySem.Expr.Name _ _) _) _ _ _)); (fail_if_success (with_reducible show wpAny _ _ (eval (PySem.Expr.Constant _ _ _) _) _ _ _)); (fail_if_success (with_reducible show wpAny _ _ (eval (PySem.Expr.Subscript _ _ _) _) _ _ _)); (fail_if_success (with_reducible show wpAny _ _ (subscriptTail _ _ _ _) _ _ _)); (fail_if_success (with_reducible show wpAny _ _ (eval (PySem.Expr.Slice _ _ _ _) _) _ _ _)); (fail_if_success (with_reducible show wpAny _ _ (evalPart _ _) _ _ _)); skip)); k_fold) | (with_reducible (show wpAny _ _ (binaryOp Operator.Add (Value.int _ _) (Value.int _ _)) _ _ _; k_here; (refine my_add ?_); intro _ _ _)) | (with_reducible (show wpAny _ _ (binaryOp Operator.FloorDiv (Value.int _ _) (Value.int _ _)) _ _ _; k_here; (refine my_floordiv (by first | assumption | omega) (by first | assumption | omega) ?_); intro _ _ _)) | (with_reducible (show wpAny _ _ (binaryOp Operator.Mod (Value.int _ _) (Value.int _ _)) _ _ _; k_here; (refine my_mod (by first | assumption | exact one_add_pos (by assumption) (by assumption) | omega) ?_); intro _ _ _)) | (with_reducible (show wpAny _ _ (binaryOp Operator.Sub (Value.int _ _) (Value.int _ _)) _ _ _; k_here; (refine my_sub ?_); intro _ _ _)) | (with_reducible (show wpAny _ _ (call (Value.builtin "len") [Value.ref _]) _ _ _; k_here; k_dflt (refine' len_refs ?ok1 ?ok2 ?ok3 ?_; (case ok1 => k_asm); (case ok2 => k_mem); (case ok3 => first | assumption | omega); k_whole); intro _ _)) | (with_reducible (show wpAny _ _ (call (Value.type "range") _) _ _ _; k_here; k_dflt (first | (refine' my_range1 ?ok1 ?ok2 ?_; (case ok1 => k_asm); (case ok2 => k_asm); k_whole; intro _ _ _ _ _ _ _ _) | (refine' my_range2 ?ok1 ?ok2 ?_; (case ok1 => k_asm); (case ok2 => k_asm); k_whole; intro _ _ _ _ _ _ _)); (try k_sweep))) | (with_reducible (show wpAny _ _ (callWith _ (Value.ref _) _ _ _) _ _ _; k_here; k_dflt (first | (refine' callWith_K ?ok1 ?ok2 ?_; (case ok1 => k_asm); (case ok2 => k_is); k_whole) | (refine' callWith_K0 ?ok1 ?ok2 ?_; (case ok1 => k_in); (case ok2 => k_is); k_whole)))) | (with_reducible (show wpAny _ _ (eval (PySem.Expr.Name _ _) (compEnvC _ _ _ _)) _ _ _; k_here; k_dflt (first | (refine' ce_local ?oN ?om ?on ?ov ?_ ?oa ?ob; (case oa => rfl); (case ob => rfl); (case on => assumption); (case oN => k_asm); (case om => k_mem); (case ov => assumption); k_whole) | (refine' ce_cell ?oN ?oc ?om ?od ?_ ?oa ?ob; (case oa => rfl); (case ob => rfl); (case oN => k_asm); (case oc => rfl); (case om => k_mem); (case od => k_asm); k_whole) | (refine' ce_K ?oF ?oX ?oT ?oe ?_ ?og ?oa ?ob; (case og => rfl); (case oa => rfl); (case ob => rfl); (case oF => k_asm); (case oX => k_asm); (case oT => k_asm); (case oe => k_is); k_whole) | (refine' ce_B ?oF ?oX ?oT ?oe ?ov ?on ?_ ?og ?ogb ?oa ?ob; (case og => rfl); (case ogb => rfl); (case oa => rfl); (case ob => rfl); (case oF => k_asm); (case oX => k_asm); (case oT => k_asm); (case oe => k_is); (case ov => boot_fast); (case on => decide); k_whole)))) | (with_reducible (show wpAny _ _ (eval (PySem.Expr.Name _ _) _) _ _ _; k_here; k_dflt (first | (refine' nameX_F ?oN ?oc ?om ?od ?_ ?oa ?ob; (case oa => rfl); (case ob => rfl); (case oN => k_asm); (case oc => rfl); (case om => k_mem); (case od => k_asm); k_whole) | (refine' nameX_C ?oN ?oc ?om ?od ?_ ?oa ?ob; (case oa => rfl); (case ob => rfl); (case oN => k_asm); (case oc => rfl); (case om => k_mem); (case od => k_asm); k_whole)))) | (with_reducible (show wpAny _ _ (newList _) _ _ _; k_here; k_dflt (refine' newList_K ?ok1 ?ok2 ?_ ?ok3; (case ok1 => k_asm); (case ok2 => k_asm); (case ok3 => exact sz_small rfl); k_whole); intro _ _ _ _ lz; (try k_lt lz); (try (revert lz; intro _)); (try k_sweep))) | (with_reducible (show wpAny _ _ (newTuple _) _ _ _; k_here; k_dflt (refine' kup_newTuple ?oF ?oN ?_ ?oz; (case oF => k_asm); (case oN => k_asm); (case oz => exact sz_small rfl); k_whole); intro _ _ _ _ lz; (try k_lt lz); (try (revert lz; intro _)); (try k_sweep))) | (with_reducible (show wpAny _ _ (subscriptTail (PySem.Expr.BinOp _ _ _ _) _ _ _) _ _ _; k_here; k_dflt (refine kba_turn (value' := PySem.Expr.Name (PySem.Str.ofString "k") ⟨0, 0, 0, 0⟩) (fun _ => rfl) ?_))) | walk1 | (dsimp only; walk1)))
  rename _ = _ + 1 => hv
  rw [cast_succ b] at hv
  subst hv
  k_dflt (refine' comp_range (fun i its led => IntsAre its (comL x b i) ∧ led = _) rfl ?zhr ?zp1 ?zp2 ?zp3 ?zp4 ?zp5 rfl rfl ?zF ?zN ⟨.nil, rfl⟩ ?zturn ?zdone; (case zF => k_asm); (case zN => k_asm))
  case zhr => k_mem
  case zp1 => omega
  case zp2 => omega
  case zp3 => omega
  case zp4 => omega
  case zp5 => decide
  case zturn =>
    rintro I i v its led h tk C oC D9 e o mC E' hin ⟨tv, rfl⟩ ⟨hi, rfl⟩ hl F3 N3 nC hmx sep c1 c2 c3 hso
    refine wpAny_tests_one ?_
    repeat' (first | (k_unfold; (try dsimp only); repeat (first | clear ek | clear qk)) | ((fail_if_success (with_reducible show wpAny _ _ (exec (Stmt.While _ _ _ _) _) _ _ _)); (fail_if_success (with_reducible show wpAny _ _ (exec (Stmt.For _ _ _ _ _) _) _ _ _)); (fail_if_success (with_reducible show wpAny _ _ (eval (Expr.ListComp _ _ _ _) _) _ _ _)); (fail_if_success (with_reducible show wpAny _ _ (exec (Stmt.Assign _ (Expr.ListComp _ _ _ _) _) _) _ _ _)); (fail_if_success (with_reducible show wpAny _ _ (pyIter _) _ _ _)); (fail_if_success (with_reducible show wpAny _ _ (call (Value.ref _) _) _ _ _)); (fail_if_success (with_reducible show wpAny _ _ (setItem _ _ _) _ _ _)); (fail_if_success (with_reducible show wpAny _ _ (call (Value.builtin "list.append") _) _ _ _)); (fail_if_success (with_reducible show wpAny _ _ (call (Value.builtin "sorted") _) _ _ _)); (fail_if_success (with_reducible show wpAny _ _ (call (Value.type "list") _) _ _ _)); (fail_if_success (with_reducible show wpAny _ _ (compareOp _ (Value.ref _) (Value.ref _)) _ _ _)); (fail_if_success (with_reducible show wpAny _ _ (call (Value.builtin "max") _) _ _ _)); first | ((first | (with_reducible show wpAny _ _ (exec _ _) _ _ _) | ((with_reducible show wpAny _ _ (eval _ _) _ _ _); (fail_if_success (with_reducible show wpAny _ _ (eval (PySem.Expr.Name _ _) _) _ _ _)); (fail_if_success (with_reducible show wpAny _ _ (eval (PySem.Expr.Constant _ _ _) _) _ _ _)); (fail_if_success (with_reducible show wpAny _ _ (eval (PySem.Expr.Subscript _ _ _) _) _ _ _)); (fail_if_success (with_reducible show wpAny _ _ (subscriptTail _ _ _ _) _ _ _)); (fail_if_success (with_reducible show wpAny _ _ (eval (PySem.Expr.Slice _ _ _ _) _) _ _ _)); (fail_if_success (with_reducible show wpAny _ _ (evalPart _ _) _ _ _)); skip)); k_fold) | (with_reducible (show wpAny _ _ (binaryOp Operator.Add (Value.int _ _) (Value.int _ _)) _ _ _; k_here; (refine my_add ?_); intro _ _ _)) | (with_reducible (show wpAny _ _ (binaryOp Operator.FloorDiv (Value.int _ _) (Value.int _ _)) _ _ _; k_here; (refine my_floordiv (by first | assumption | omega) (by first | assumption | omega) ?_); intro _ _ _)) | (with_reducible (show wpAny _ _ (binaryOp Operator.Mod (Value.int _ _) (Value.int _ _)) _ _ _; k_here; (refine my_mod (by first | assumption | exact one_add_pos (by assumption) (by assumption) | omega) ?_); intro _ _ _)) | (with_reducible (show wpAny _ _ (binaryOp Operator.Sub (Value.int _ _) (Value.int _ _)) _ _ _; k_here; (refine my_sub ?_); intro _ _ _)) | (with_reducible (show wpAny _ _ (call (Value.builtin "len") [Value.ref _]) _ _ _; k_here; k_dflt (refine' len_refs ?ok1 ?ok2 ?ok3 ?_; (case ok1 => k_asm); (case ok2 => k_mem); (case ok3 => first | assumption | omega); k_whole); intro _ _)) | (with_reducible (show wpAny _ _ (call (Value.type "range") _) _ _ _; k_here; k_dflt (first | (refine' my_range1 ?ok1 ?ok2 ?_; (case ok1 => k_asm); (case ok2 => k_asm); k_whole; intro _ _ _ _ _ _ _ _) | (refine' my_range2 ?ok1 ?ok2 ?_; (case ok1 => k_asm); (case ok2 => k_asm); k_whole; intro _ _ _ _ _ _ _)); (try k_sweep))) | (with_reducible (show wpAny _ _ (callWith _ (Value.ref _) _ _ _) _ _ _; k_here; k_dflt (first | (refine' callWith_K ?ok1 ?ok2 ?_; (case ok1 => k_asm); (case ok2 => k_is); k_whole) | (refine' callWith_K0 ?ok1 ?ok2 ?_; (case ok1 => k_in); (case ok2 => k_is); k_whole)))) | (with_reducible (show wpAny _ _ (eval (PySem.Expr.Name _ _) (compEnvC _ _ _ _)) _ _ _; k_here; k_dflt (first | (refine' ce_local ?oN ?om ?on ?ov ?_ ?oa ?ob; (case oa => rfl); (case ob => rfl); (case on => assumption); (case oN => k_asm); (case om => k_mem); (case ov => assumption); k_whole) | (refine' ce_cell ?oN ?oc ?om ?od ?_ ?oa ?ob; (case oa => rfl); (case ob => rfl); (case oN => k_asm); (case oc => rfl); (case om => k_mem); (case od => k_asm); k_whole) | (refine' ce_K ?oF ?oX ?oT ?oe ?_ ?og ?oa ?ob; (case og => rfl); (case oa => rfl); (case ob => rfl); (case oF => k_asm); (case oX => k_asm); (case oT => k_asm); (case oe => k_is); k_whole) | (refine' ce_B ?oF ?oX ?oT ?oe ?ov ?on ?_ ?og ?ogb ?oa ?ob; (case og => rfl); (case ogb => rfl); (case oa => rfl); (case ob => rfl); (case oF => k_asm); (case oX => k_asm); (case oT => k_asm); (case oe => k_is); (case ov => boot_fast); (case on => decide); k_whole)))) | (with_reducible (show wpAny _ _ (eval (PySem.Expr.Name _ _) _) _ _ _; k_here; k_dflt (first | (refine' nameX_F ?oN ?oc ?om ?od ?_ ?oa ?ob; (case oa => rfl); (case ob => rfl); (case oN => k_asm); (case oc => rfl); (case om => k_mem); (case od => k_asm); k_whole) | (refine' nameX_C ?oN ?oc ?om ?od ?_ ?oa ?ob; (case oa => rfl); (case ob => rfl); (case oN => k_asm); (case oc => rfl); (case om => k_mem); (case od => k_asm); k_whole)))) | (with_reducible (show wpAny _ _ (newList _) _ _ _; k_here; k_dflt (refine' newList_K ?ok1 ?ok2 ?_ ?ok3; (case ok1 => k_asm); (case ok2 => k_asm); (case ok3 => exact sz_small rfl); k_whole); intro _ _ _ _ lz; (try k_lt lz); (try (revert lz; intro _)); (try k_sweep))) | (with_reducible (show wpAny _ _ (newTuple _) _ _ _; k_here; k_dflt (refine' kup_newTuple ?oF ?oN ?_ ?oz; (case oF => k_asm); (case oN => k_asm); (case oz => exact sz_small rfl); k_whole); intro _ _ _ _ lz; (try k_lt lz); (try (revert lz; intro _)); (try k_sweep))) | (with_reducible (show wpAny _ _ (subscriptTail (PySem.Expr.BinOp _ _ _ _) _ _ _) _ _ _; k_here; k_dflt (refine kba_turn (value' := PySem.Expr.Name (PySem.Str.ofString "k") ⟨0, 0, 0, 0⟩) (fun _ => rfl) ?_))) | walk1 | (dsimp only; walk1)))
    · rename _ = x % _ => hv2
      rename _ = (b : Int) % _ => hv1
      refine comp_end _ F3 N3 (by k_mem) (by k_mem) (by k_mem) (fun p hp => ⟨by k_mem, sep p hp⟩) ⟨comL_yes hi (by omega) (by omega), rfl⟩
    · rename _ = x % _ => hv2
      rename _ = (b : Int) % _ => hv1
      refine comp_end _ F3 N3 (by k_mem) (by k_mem) (by k_mem) (fun p hp => ⟨by k_mem, sep p hp⟩) ⟨comL_no hi (.inr (by omega)), rfl⟩
    · rename _ = (b : Int) % _ => hv1
      refine comp_end _ F3 N3 (by k_mem) (by k_mem) (by k_mem) (fun p hp => ⟨by k_mem, sep p hp⟩) ⟨comL_no hi (.inl (by omega)), rfl⟩
  case zdone =>
    rintro its led h tk C oC D9 e mC ⟨hi, rfl⟩ F3 N3 nC sep hCD
    rw [toNat_succ_pred b] at hi
    refine comp_none F3 N3 nC sep hCD ?_
    intro h4 F4 N4 hneD
    repeat' (first | (k_unfold; (try dsimp only); repeat (first | clear ek | clear qk)) | ((fail_if_success (with_reducible show wpAny _ _ (exec (Stmt.While _ _ _ _) _) _ _ _)); (fail_if_success (with_reducible show wpAny _ _ (exec (Stmt.For _ _ _ _ _) _) _ _ _)); (fail_if_success (with_reducible show wpAny _ _ (eval (Expr.ListComp _ _ _ _) _) _ _ _)); (fail_if_success (with_reducible show wpAny _ _ (exec (Stmt.Assign _ (Expr.ListComp _ _ _ _) _) _) _ _ _)); (fail_if_success (with_reducible show wpAny _ _ (pyIter _) _ _ _)); (fail_if_success (with_reducible show wpAny _ _ (call (Value.ref _) _) _ _ _)); (fail_if_success (with_reducible show wpAny _ _ (setItem _ _ _) _ _ _)); (fail_if_success (with_reducible show wpAny _ _ (call (Value.builtin "list.append") _) _ _ _)); (fail_if_success (with_reducible show wpAny _ _ (call (Value.builtin "sorted") _) _ _ _)); (fail_if_success (with_reducible show wpAny _ _ (call (Value.type "list") _) _ _ _)); (fail_if_success (with_reducible show wpAny _ _ (compareOp _ (Value.ref _) (Value.ref _)) _ _ _)); (fail_if_success (with_reducible show wpAny _ _ (call (Value.builtin "max") _) _ _ _)); first | ((first | (with_reducible show wpAny _ _ (exec _ _) _ _ _) | ((with_reducible show wpAny _ _ (eval _ _) _ _ _); (fail_if_success (with_reducible show wpAny _ _ (eval (PySem.Expr.Name _ _) _) _ _ _)); (fail_if_success (with_reducible show wpAny _ _ (eval (PySem.Expr.Constant _ _ _) _) _ _ _)); (fail_if_success (with_reducible show wpAny _ _ (eval (PySem.Expr.Subscript _ _ _) _) _ _ _)); (fail_if_success (with_reducible show wpAny _ _ (subscriptTail _ _ _ _) _ _ _)); (fail_if_success (with_reducible show wpAny _ _ (eval (PySem.Expr.Slice _ _ _ _) _) _ _ _)); (fail_if_success (with_reducible show wpAny _ _ (evalPart _ _) _ _ _)); skip)); k_fold) | (with_reducible (show wpAny _ _ (binaryOp Operator.Add (Value.int _ _) (Value.int _ _)) _ _ _; k_here; (refine my_add ?_); intro _ _ _)) | (with_reducible (show wpAny _ _ (binaryOp Operator.FloorDiv (Value.int _ _) (Value.int _ _)) _ _ _; k_here; (refine my_floordiv (by first | assumption | omega) (by first | assumption | omega) ?_); intro _ _ _)) | (with_reducible (show wpAny _ _ (binaryOp Operator.Mod (Value.int _ _) (Value.int _ _)) _ _ _; k_here; (refine my_mod (by first | assumption | exact one_add_pos (by assumption) (by assumption) | omega) ?_); intro _ _ _)) | (with_reducible (show wpAny _ _ (binaryOp Operator.Sub (Value.int _ _) (Value.int _ _)) _ _ _; k_here; (refine my_sub ?_); intro _ _ _)) | (with_reducible (show wpAny _ _ (call (Value.builtin "len") [Value.ref _]) _ _ _; k_here; k_dflt (refine' len_refs ?ok1 ?ok2 ?ok3 ?_; (case ok1 => k_asm); (case ok2 => k_mem); (case ok3 => first | assumption | omega); k_whole); intro _ _)) | (with_reducible (show wpAny _ _ (call (Value.type "range") _) _ _ _; k_here; k_dflt (first | (refine' my_range1 ?ok1 ?ok2 ?_; (case ok1 => k_asm); (case ok2 => k_asm); k_whole; intro _ _ _ _ _ _ _ _) | (refine' my_range2 ?ok1 ?ok2 ?_; (case ok1 => k_asm); (case ok2 => k_asm); k_whole; intro _ _ _ _ _ _ _)); (try k_sweep))) | (with_reducible (show wpAny _ _ (callWith _ (Value.ref _) _ _ _) _ _ _; k_here; k_dflt (first | (refine' callWith_K ?ok1 ?ok2 ?_; (case ok1 => k_asm); (case ok2 => k_is); k_whole) | (refine' callWith_K0 ?ok1 ?ok2 ?_; (case ok1 => k_in); (case ok2 => k_is); k_whole)))) | (with_reducible (show wpAny _ _ (eval (PySem.Expr.Name _ _) (compEnvC _ _ _ _)) _ _ _; k_here; k_dflt (first | (refine' ce_local ?oN ?om ?on ?ov ?_ ?oa ?ob; (case oa => rfl); (case ob => rfl); (case on => assumption); (case oN => k_asm); (case om => k_mem); (case ov => assumption); k_whole) | (refine' ce_cell ?oN ?oc ?om ?od ?_ ?oa ?ob; (case oa => rfl); (case ob => rfl); (case oN => k_asm); (case oc => rfl); (case om => k_mem); (case od => k_asm); k_whole) | (refine' ce_K ?oF ?oX ?oT ?oe ?_ ?og ?oa ?ob; (case og => rfl); (case oa => rfl); (case ob => rfl); (case oF => k_asm); (case oX => k_asm); (case oT => k_asm); (case oe => k_is); k_whole) | (refine' ce_B ?oF ?oX ?oT ?oe ?ov ?on ?_ ?og ?ogb ?oa ?ob; (case og => rfl); (case ogb => rfl); (case oa => rfl); (case ob => rfl); (case oF => k_asm); (case oX => k_asm); (case oT => k_asm); (case oe => k_is); (case ov => boot_fast); (case on => decide); k_whole)))) | (with_reducible (show wpAny _ _ (eval (PySem.Expr.Name _ _) _) _ _ _; k_here; k_dflt (first | (refine' nameX_F ?oN ?oc ?om ?od ?_ ?oa ?ob; (case oa => rfl); (case ob => rfl); (case oN => k_asm); (case oc => rfl); (case om => k_mem); (case od => k_asm); k_whole) | (refine' nameX_C ?oN ?oc ?om ?od ?_ ?oa ?ob; (case oa => rfl); (case ob => rfl); (case oN => k_asm); (case oc => rfl); (case om => k_mem); (case od => k_asm); k_whole)))) | (with_reducible (show wpAny _ _ (newList _) _ _ _; k_here; k_dflt (refine' newList_K ?ok1 ?ok2 ?_ ?ok3; (case ok1 => k_asm); (case ok2 => k_asm); (case ok3 => exact sz_small rfl); k_whole); intro _ _ _ _ lz; (try k_lt lz); (try (revert lz; intro _)); (try k_sweep))) | (with_reducible (show wpAny _ _ (newTuple _) _ _ _; k_here; k_dflt (refine' kup_newTuple ?oF ?oN ?_ ?oz; (case oF => k_asm); (case oN => k_asm); (case oz => exact sz_small rfl); k_whole); intro _ _ _ _ lz; (try k_lt lz); (try (revert lz; intro _)); (try k_sweep))) | (with_reducible (show wpAny _ _ (subscriptTail (PySem.Expr.BinOp _ _ _ _) _ _ _) _ _ _; k_here; k_dflt (refine kba_turn (value' := PySem.Expr.Name (PySem.Str.ofString "k") ⟨0, 0, 0, 0⟩) (fun _ => rfl) ?_))) | walk1 | (dsimp only; walk1)))
    refine kso_max F4 N4 ⟨_, (N4 _ List.mem_cons_self).1, rfl, e, rfl⟩ hi (comL_pos hb.1) rfl ?_
    intro h5 M tM tk5 F5 N5 hM1 hM2
    obtain ⟨c, rfl, hc1, hc2, hc3, hc4, hc5⟩ := common_of hM1 hM2
    obtain ⟨hcz, hcm⟩ := c_box hc1 hc2 hb.2 hB.2
    repeat' (first | (k_unfold; (try dsimp only); repeat (first | clear ek | clear qk)) | ((fail_if_success (with_reducible show wpAny _ _ (exec (Stmt.While _ _ _ _) _) _ _ _)); (fail_if_success (with_reducible show wpAny _ _ (exec (Stmt.For _ _ _ _ _) _) _ _ _)); (fail_if_success (with_reducible show wpAny _ _ (eval (Expr.ListComp _ _ _ _) _) _ _ _)); (fail_if_success (with_reducible show wpAny _ _ (exec (Stmt.Assign _ (Expr.ListComp _ _ _ _) _) _) _ _ _)); (fail_if_success (with_reducible show wpAny _ _ (pyIter _) _ _ _)); (fail_if_success (with_reducible show wpAny _ _ (call (Value.ref _) _) _ _ _)); (fail_if_success (with_reducible show wpAny _ _ (setItem _ _ _) _ _ _)); (fail_if_success (with_reducible show wpAny _ _ (call (Value.builtin "list.append") _) _ _ _)); (fail_if_success (with_reducible show wpAny _ _ (call (Value.builtin "sorted") _) _ _ _)); (fail_if_success (with_reducible show wpAny _ _ (call (Value.type "list") _) _ _ _)); (fail_if_success (with_reducible show wpAny _ _ (compareOp _ (Value.ref _) (Value.ref _)) _ _ _)); (fail_if_success (with_reducible show wpAny _ _ (call (Value.builtin "max") _) _ _ _)); first | ((first | (with_reducible show wpAny _ _ (exec _ _) _ _ _) | ((with_reducible show wpAny _ _ (eval _ _) _ _ _); (fail_if_success (with_reducible show wpAny _ _ (eval (PySem.Expr.Name _ _) _) _ _ _)); (fail_if_success (with_reducible show wpAny _ _ (eval (PySem.Expr.Constant _ _ _) _) _ _ _)); (fail_if_success (with_reducible show wpAny _ _ (eval (PySem.Expr.Subscript _ _ _) _) _ _ _)); (fail_if_success (with_reducible show wpAny _ _ (subscriptTail _ _ _ _) _ _ _)); (fail_if_success (with_reducible show wpAny _ _ (eval (PySem.Expr.Slice _ _ _ _) _) _ _ _)); (fail_if_success (with_reducible show wpAny _ _ (evalPart _ _) _ _ _)); skip)); k_fold) | (with_reducible (show wpAny _ _ (binaryOp Operator.Add (Value.int _ _) (Value.int _ _)) _ _ _; k_here; (refine my_add ?_); intro _ _ _)) | (with_reducible (show wpAny _ _ (binaryOp Operator.FloorDiv (Value.int _ _) (Value.int _ _)) _ _ _; k_here; (refine my_floordiv (by first | assumption | omega) (by first | assumption | omega) ?_); intro _ _ _)) | (with_reducible (show wpAny _ _ (binaryOp Operator.Mod (Value.int _ _) (Value.int _ _)) _ _ _; k_here; (refine my_mod (by first | assumption | exact one_add_pos (by assumption) (by assumption) | omega) ?_); intro _ _ _)) | (with_reducible (show wpAny _ _ (binaryOp Operator.Sub (Value.int _ _) (Value.int _ _)) _ _ _; k_here; (refine my_sub ?_); intro _ _ _)) | (with_reducible (show wpAny _ _ (call (Value.builtin "len") [Value.ref _]) _ _ _; k_here; k_dflt (refine' len_refs ?ok1 ?ok2 ?ok3 ?_; (case ok1 => k_asm); (case ok2 => k_mem); (case ok3 => first | assumption | omega); k_whole); intro _ _)) | (with_reducible (show wpAny _ _ (call (Value.type "range") _) _ _ _; k_here; k_dflt (first | (refine' my_range1 ?ok1 ?ok2 ?_; (case ok1 => k_asm); (case ok2 => k_asm); k_whole; intro _ _ _ _ _ _ _ _) | (refine' my_range2 ?ok1 ?ok2 ?_; (case ok1 => k_asm); (case ok2 => k_asm); k_whole; intro _ _ _ _ _ _ _)); (try k_sweep))) | (with_reducible (show wpAny _ _ (callWith _ (Value.ref _) _ _ _) _ _ _; k_here; k_dflt (first | (refine' callWith_K ?ok1 ?ok2 ?_; (case ok1 => k_asm); (case ok2 => k_is); k_whole) | (refine' callWith_K0 ?ok1 ?ok2 ?_; (case ok1 => k_in); (case ok2 => k_is); k_whole)))) | (with_reducible (show wpAny _ _ (eval (PySem.Expr.Name _ _) (compEnvC _ _ _ _)) _ _ _; k_here; k_dflt (first | (refine' ce_local ?oN ?om ?on ?ov ?_ ?oa ?ob; (case oa => rfl); (case ob => rfl); (case on => assumption); (case oN => k_asm); (case om => k_mem); (case ov => assumption); k_whole) | (refine' ce_cell ?oN ?oc ?om ?od ?_ ?oa ?ob; (case oa => rfl); (case ob => rfl); (case oN => k_asm); (case oc => rfl); (case om => k_mem); (case od => k_asm); k_whole) | (refine' ce_K ?oF ?oX ?oT ?oe ?_ ?og ?oa ?ob; (case og => rfl); (case oa => rfl); (case ob => rfl); (case oF => k_asm); (case oX => k_asm); (case oT => k_asm); (case oe => k_is); k_whole) | (refine' ce_B ?oF ?oX ?oT ?oe ?ov ?on ?_ ?og ?ogb ?oa ?ob; (case og => rfl); (case ogb => rfl); (case oa => rfl); (case ob => rfl); (case oF => k_asm); (case oX => k_asm); (case oT => k_asm); (case oe => k_is); (case ov => boot_fast); (case on => decide); k_whole)))) | (with_reducible (show wpAny _ _ (eval (PySem.Expr.Name _ _) _) _ _ _; k_here; k_dflt (first | (refine' nameX_F ?oN ?oc ?om ?od ?_ ?oa ?ob; (case oa => rfl); (case ob => rfl); (case oN => k_asm); (case oc => rfl); (case om => k_mem); (case od => k_asm); k_whole) | (refine' nameX_C ?oN ?oc ?om ?od ?_ ?oa ?ob; (case oa => rfl); (case ob => rfl); (case oN => k_asm); (case oc => rfl); (case om => k_mem); (case od => k_asm); k_whole)))) | (with_reducible (show wpAny _ _ (newList _) _ _ _; k_here; k_dflt (refine' newList_K ?ok1 ?ok2 ?_ ?ok3; (case ok1 => k_asm); (case ok2 => k_asm); (case ok3 => exact sz_small rfl); k_whole); intro _ _ _ _ lz; (try k_lt lz); (try (revert lz; intro _)); (try k_sweep))) | (with_reducible (show wpAny _ _ (newTuple _) _ _ _; k_here; k_dflt (refine' kup_newTuple ?oF ?oN ?_ ?oz; (case oF => k_asm); (case oN => k_asm); (case oz => exact sz_small rfl); k_whole); intro _ _ _ _ lz; (try k_lt lz); (try (revert lz; intro _)); (try k_sweep))) | (with_reducible (show wpAny _ _ (subscriptTail (PySem.Expr.BinOp _ _ _ _) _ _ _) _ _ _; k_here; k_dflt (refine kba_turn (value' := PySem.Expr.Name (PySem.Str.ofString "k") ⟨0, 0, 0, 0⟩) (fun _ => rfl) ?_))) | walk1 | (dsimp only; walk1)))
    rename _ = x / _ => hq1
    rename _ = (b : Int) / _ => hq2
    replace hq2 := hq2.trans (Int.natCast_ediv b c).symm
    subst hq1
    subst hq2
    have hcop := common_coprime hb.1 hc1 hc3 hc4 hc5
    have hy : 1 ≤ b / c ∧ b / c ≤ B := ⟨Nat.div_pos hc2 hc1, Nat.le_trans (Nat.div_le_self b c) hb.2⟩
    have hlaw := law_all B hB.1 hB.2 (b / c) hy.1 hy.2 (x / c) hcop
    obtain ⟨hlow, his, hs, hrun, hfin⟩ := lawP_parts hlaw
    have hza := Int.natAbs_ediv_le_natAbs x (c : Int)
    have hz := abs_lt20 hza hx2
    clear hcop hlaw hza hc4 hc5 hM1 hM2 hi
    generalize hze : x / (c : Int) = z at *
    generalize hye : b / c = y at *
    rename News _ _ _ _ => lN1
    refine Spec.use (told_spec _ B y z _ _ _ _ (Nat.le_trans hB.2 (by decide)) hy.1 hy.2 hz.1 hz.2 hlow) (by k_asm) (by k_asm) (by k_asm) lN1 (by k_asm) rfl (by ktr_room) (by ktr_units) ⟨⟨#[], by k_mem, .inl rfl⟩, ⟨#[], by k_mem, .inl rfl⟩⟩ ?_
    rintro r6 news6 h6 tk6 F6 N6 ⟨Lt, as, et, rfl, mLt, hpt, hk6⟩
    have mc1 := hk6.2 (_, o1) (by k_mem) (solid_cell d1)
    have mc2 := hk6.2 (_, o2) (by k_mem) (solid_cell d2)
    have mW := hk6.2 (_, listOf #[] 0) (by k_mem) (solid_list _ _)
    have hlen := hpt.length
    have hlen2 := toldP_length B z y
    have hal := lt7B hlen hlen2 hB.2
    rw [← hlen] at hrun
    repeat' (first | (k_unfold; (try dsimp only); repeat (first | clear ek | clear qk)) | ((fail_if_success (with_reducible show wpAny _ _ (exec (Stmt.While _ _ _ _) _) _ _ _)); (fail_if_success (with_reducible show wpAny _ _ (exec (Stmt.For _ _ _ _ _) _) _ _ _)); (fail_if_success (with_reducible show wpAny _ _ (eval (Expr.ListComp _ _ _ _) _) _ _ _)); (fail_if_success (with_reducible show wpAny _ _ (exec (Stmt.Assign _ (Expr.ListComp _ _ _ _) _) _) _ _ _)); (fail_if_success (with_reducible show wpAny _ _ (pyIter _) _ _ _)); (fail_if_success (with_reducible show wpAny _ _ (call (Value.ref _) _) _ _ _)); (fail_if_success (with_reducible show wpAny _ _ (setItem _ _ _) _ _ _)); (fail_if_success (with_reducible show wpAny _ _ (call (Value.builtin "list.append") _) _ _ _)); (fail_if_success (with_reducible show wpAny _ _ (call (Value.builtin "sorted") _) _ _ _)); (fail_if_success (with_reducible show wpAny _ _ (call (Value.type "list") _) _ _ _)); (fail_if_success (with_reducible show wpAny _ _ (compareOp _ (Value.ref _) (Value.ref _)) _ _ _)); (fail_if_success (with_reducible show wpAny _ _ (call (Value.builtin "max") _) _ _ _)); first | ((first | (with_reducible show wpAny _ _ (exec _ _) _ _ _) | ((with_reducible show wpAny _ _ (eval _ _) _ _ _); (fail_if_success (with_reducible show wpAny _ _ (eval (PySem.Expr.Name _ _) _) _ _ _)); (fail_if_success (with_reducible show wpAny _ _ (eval (PySem.Expr.Constant _ _ _) _) _ _ _)); (fail_if_success (with_reducible show wpAny _ _ (eval (PySem.Expr.Subscript _ _ _) _) _ _ _)); (fail_if_success (with_reducible show wpAny _ _ (subscriptTail _ _ _ _) _ _ _)); (fail_if_success (with_reducible show wpAny _ _ (eval (PySem.Expr.Slice _ _ _ _) _) _ _ _)); (fail_if_success (with_reducible show wpAny _ _ (evalPart _ _) _ _ _)); skip)); k_fold) | (with_reducible (show wpAny _ _ (binaryOp Operator.Add (Value.int _ _) (Value.int _ _)) _ _ _; k_here; (refine my_add ?_); intro _ _ _)) | (with_reducible (show wpAny _ _ (binaryOp Operator.FloorDiv (Value.int _ _) (Value.int _ _)) _ _ _; k_here; (refine my_floordiv (by first | assumption | omega) (by first | assumption | omega) ?_); intro _ _ _)) | (with_reducible (show wpAny _ _ (binaryOp Operator.Mod (Value.int _ _) (Value.int _ _)) _ _ _; k_here; (refine my_mod (by first | assumption | exact one_add_pos (by assumption) (by assumption) | omega) ?_); intro _ _ _)) | (with_reducible (show wpAny _ _ (binaryOp Operator.Sub (Value.int _ _) (Value.int _ _)) _ _ _; k_here; (refine my_sub ?_); intro _ _ _)) | (with_reducible (show wpAny _ _ (call (Value.builtin "len") [Value.ref _]) _ _ _; k_here; k_dflt (refine' len_refs ?ok1 ?ok2 ?ok3 ?_; (case ok1 => k_asm); (case ok2 => k_mem); (case ok3 => first | assumption | omega); k_whole); intro _ _)) | (with_reducible (show wpAny _ _ (call (Value.type "range") _) _ _ _; k_here; k_dflt (first | (refine' my_range1 ?ok1 ?ok2 ?_; (case ok1 => k_asm); (case ok2 => k_asm); k_whole; intro _ _ _ _ _ _ _ _) | (refine' my_range2 ?ok1 ?ok2 ?_; (case ok1 => k_asm); (case ok2 => k_asm); k_whole; intro _ _ _ _ _ _ _)); (try k_sweep))) | (with_reducible (show wpAny _ _ (callWith _ (Value.ref _) _ _ _) _ _ _; k_here; k_dflt (first | (refine' callWith_K ?ok1 ?ok2 ?_; (case ok1 => k_asm); (case ok2 => k_is); k_whole) | (refine' callWith_K0 ?ok1 ?ok2 ?_; (case ok1 => k_in); (case ok2 => k_is); k_whole)))) | (with_reducible (show wpAny _ _ (eval (PySem.Expr.Name _ _) (compEnvC _ _ _ _)) _ _ _; k_here; k_dflt (first | (refine' ce_local ?oN ?om ?on ?ov ?_ ?oa ?ob; (case oa => rfl); (case ob => rfl); (case on => assumption); (case oN => k_asm); (case om => k_mem); (case ov => assumption); k_whole) | (refine' ce_cell ?oN ?oc ?om ?od ?_ ?oa ?ob; (case oa => rfl); (case ob => rfl); (case oN => k_asm); (case oc => rfl); (case om => k_mem); (case od => k_asm); k_whole) | (refine' ce_K ?oF ?oX ?oT ?oe ?_ ?og ?oa ?ob; (case og => rfl); (case oa => rfl); (case ob => rfl); (case oF => k_asm); (case oX => k_asm); (case oT => k_asm); (case oe => k_is); k_whole) | (refine' ce_B ?oF ?oX ?oT ?oe ?ov ?on ?_ ?og ?ogb ?oa ?ob; (case og => rfl); (case ogb => rfl); (case oa => rfl); (case ob => rfl); (case oF => k_asm); (case oX => k_asm); (case oT => k_asm); (case oe => k_is); (case ov => boot_fast); (case on => decide); k_whole)))) | (with_reducible (show wpAny _ _ (eval (PySem.Expr.Name _ _) _) _ _ _; k_here; k_dflt (first | (refine' nameX_F ?oN ?oc ?om ?od ?_ ?oa ?ob; (case oa => rfl); (case ob => rfl); (case oN => k_asm); (case oc => rfl); (case om => k_mem); (case od => k_asm); k_whole) | (refine' nameX_C ?oN ?oc ?om ?od ?_ ?oa ?ob; (case oa => rfl); (case ob => rfl); (case oN => k_asm); (case oc => rfl); (case om => k_mem); (case od => k_asm); k_whole)))) | (with_reducible (show wpAny _ _ (newList _) _ _ _; k_here; k_dflt (refine' newList_K ?ok1 ?ok2 ?_ ?ok3; (case ok1 => k_asm); (case ok2 => k_asm); (case ok3 => exact sz_small rfl); k_whole); intro _ _ _ _ lz; (try k_lt lz); (try (revert lz; intro _)); (try k_sweep))) | (with_reducible (show wpAny _ _ (newTuple _) _ _ _; k_here; k_dflt (refine' kup_newTuple ?oF ?oN ?_ ?oz; (case oF => k_asm); (case oN => k_asm); (case oz => exact sz_small rfl); k_whole); intro _ _ _ _ lz; (try k_lt lz); (try (revert lz; intro _)); (try k_sweep))) | (with_reducible (show wpAny _ _ (subscriptTail (PySem.Expr.BinOp _ _ _ _) _ _ _) _ _ _; k_here; k_dflt (refine kba_turn (value' := PySem.Expr.Name (PySem.Str.ofString "k") ⟨0, 0, 0, 0⟩) (fun _ => rfl) ?_))) | walk1 | (dsimp only; walk1)))
    rename _ = x / _ => hq3
    rename _ = (b : Int) / _ => hq4
    replace hq3 := (hq3.trans hze).symm
    replace hq4 := hq4.trans ((Int.natCast_ediv b c).symm.trans (congrArg Nat.cast hye))
    subst hq3
    subst hq4
    rename News _ _ _ _ => lN6
    refine Spec.use (noted_spec _ B y z as.length _ _ _ _ _ hB.1 hB.2 hy.1 hy.2 hz.1 hz.2 hal his hs _ hrun hfin) (by k_asm) (by k_asm) (by k_asm) lN6 (by k_asm) rfl (by ktr_room) (by ktr_units) hk6.1 ?_
    rintro r7 news7 h7 tk7 F7 N7 ⟨Lt2, as2, et2, rfl, mLt2, hpt2, hk7⟩
    have mW7 := hk7.2 _ mW (solid_list _ _)
    have mLt7 := hk7.2 _ mLt (solid_list _ _)
    have hpt7 := hpt.mono fun a p q tp tq h => hk7.2 _ h (solid_tup _)
    have tb7 := hk7.1
    repeat' (first | (k_unfold; (try dsimp only); repeat (first | clear ek | clear qk)) | ((fail_if_success (with_reducible show wpAny _ _ (exec (Stmt.While _ _ _ _) _) _ _ _)); (fail_if_success (with_reducible show wpAny _ _ (exec (Stmt.For _ _ _ _ _) _) _ _ _)); (fail_if_success (with_reducible show wpAny _ _ (eval (Expr.ListComp _ _ _ _) _) _ _ _)); (fail_if_success (with_reducible show wpAny _ _ (exec (Stmt.Assign _ (Expr.ListComp _ _ _ _) _) _) _ _ _)); (fail_if_success (with_reducible show wpAny _ _ (pyIter _) _ _ _)); (fail_if_success (with_reducible show wpAny _ _ (call (Value.ref _) _) _ _ _)); (fail_if_success (with_reducible show wpAny _ _ (setItem _ _ _) _ _ _)); (fail_if_success (with_reducible show wpAny _ _ (call (Value.builtin "list.append") _) _ _ _)); (fail_if_success (with_reducible show wpAny _ _ (call (Value.builtin "sorted") _) _ _ _)); (fail_if_success (with_reducible show wpAny _ _ (call (Value.type "list") _) _ _ _)); (fail_if_success (with_reducible show wpAny _ _ (compareOp _ (Value.ref _) (Value.ref _)) _ _ _)); (fail_if_success (with_reducible show wpAny _ _ (call (Value.builtin "max") _) _ _ _)); first | ((first | (with_reducible show wpAny _ _ (exec _ _) _ _ _) | ((with_reducible show wpAny _ _ (eval _ _) _ _ _); (fail_if_success (with_reducible show wpAny _ _ (eval (PySem.Expr.Name _ _) _) _ _ _)); (fail_if_success (with_reducible show wpAny _ _ (eval (PySem.Expr.Constant _ _ _) _) _ _ _)); (fail_if_success (with_reducible show wpAny _ _ (eval (PySem.Expr.Subscript _ _ _) _) _ _ _)); (fail_if_success (with_reducible show wpAny _ _ (subscriptTail _ _ _ _) _ _ _)); (fail_if_success (with_reducible show wpAny _ _ (eval (PySem.Expr.Slice _ _ _ _) _) _ _ _)); (fail_if_success (with_reducible show wpAny _ _ (evalPart _ _) _ _ _)); skip)); k_fold) | (with_reducible (show wpAny _ _ (binaryOp Operator.Add (Value.int _ _) (Value.int _ _)) _ _ _; k_here; (refine my_add ?_); intro _ _ _)) | (with_reducible (show wpAny _ _ (binaryOp Operator.FloorDiv (Value.int _ _) (Value.int _ _)) _ _ _; k_here; (refine my_floordiv (by first | assumption | omega) (by first | assumption | omega) ?_); intro _ _ _)) | (with_reducible (show wpAny _ _ (binaryOp Operator.Mod (Value.int _ _) (Value.int _ _)) _ _ _; k_here; (refine my_mod (by first | assumption | exact one_add_pos (by assumption) (by assumption) | omega) ?_); intro _ _ _)) | (with_reducible (show wpAny _ _ (binaryOp Operator.Sub (Value.int _ _) (Value.int _ _)) _ _ _; k_here; (refine my_sub ?_); intro _ _ _)) | (with_reducible (show wpAny _ _ (call (Value.builtin "len") [Value.ref _]) _ _ _; k_here; k_dflt (refine' len_refs ?ok1 ?ok2 ?ok3 ?_; (case ok1 => k_asm); (case ok2 => k_mem); (case ok3 => first | assumption | omega); k_whole); intro _ _)) | (with_reducible (show wpAny _ _ (call (Value.type "range") _) _ _ _; k_here; k_dflt (first | (refine' my_range1 ?ok1 ?ok2 ?_; (case ok1 => k_asm); (case ok2 => k_asm); k_whole; intro _ _ _ _ _ _ _ _) | (refine' my_range2 ?ok1 ?ok2 ?_; (case ok1 => k_asm); (case ok2 => k_asm); k_whole; intro _ _ _ _ _ _ _)); (try k_sweep))) | (with_reducible (show wpAny _ _ (callWith _ (Value.ref _) _ _ _) _ _ _; k_here; k_dflt (first | (refine' callWith_K ?ok1 ?ok2 ?_; (case ok1 => k_asm); (case ok2 => k_is); k_whole) | (refine' callWith_K0 ?ok1 ?ok2 ?_; (case ok1 => k_in); (case ok2 => k_is); k_whole)))) | (with_reducible (show wpAny _ _ (eval (PySem.Expr.Name _ _) (compEnvC _ _ _ _)) _ _ _; k_here; k_dflt (first | (refine' ce_local ?oN ?om ?on ?ov ?_ ?oa ?ob; (case oa => rfl); (case ob => rfl); (case on => assumption); (case oN => k_asm); (case om => k_mem); (case ov => assumption); k_whole) | (refine' ce_cell ?oN ?oc ?om ?od ?_ ?oa ?ob; (case oa => rfl); (case ob => rfl); (case oN => k_asm); (case oc => rfl); (case om => k_mem); (case od => k_asm); k_whole) | (refine' ce_K ?oF ?oX ?oT ?oe ?_ ?og ?oa ?ob; (case og => rfl); (case oa => rfl); (case ob => rfl); (case oF => k_asm); (case oX => k_asm); (case oT => k_asm); (case oe => k_is); k_whole) | (refine' ce_B ?oF ?oX ?oT ?oe ?ov ?on ?_ ?og ?ogb ?oa ?ob; (case og => rfl); (case ogb => rfl); (case oa => rfl); (case ob => rfl); (case oF => k_asm); (case oX => k_asm); (case oT => k_asm); (case oe => k_is); (case ov => boot_fast); (case on => decide); k_whole)))) | (with_reducible (show wpAny _ _ (eval (PySem.Expr.Name _ _) _) _ _ _; k_here; k_dflt (first | (refine' nameX_F ?oN ?oc ?om ?od ?_ ?oa ?ob; (case oa => rfl); (case ob => rfl); (case oN => k_asm); (case oc => rfl); (case om => k_mem); (case od => k_asm); k_whole) | (refine' nameX_C ?oN ?oc ?om ?od ?_ ?oa ?ob; (case oa => rfl); (case ob => rfl); (case oN => k_asm); (case oc => rfl); (case om => k_mem); (case od => k_asm); k_whole)))) | (with_reducible (show wpAny _ _ (newList _) _ _ _; k_here; k_dflt (refine' newList_K ?ok1 ?ok2 ?_ ?ok3; (case ok1 => k_asm); (case ok2 => k_asm); (case ok3 => exact sz_small rfl); k_whole); intro _ _ _ _ lz; (try k_lt lz); (try (revert lz; intro _)); (try k_sweep))) | (with_reducible (show wpAny _ _ (newTuple _) _ _ _; k_here; k_dflt (refine' kup_newTuple ?oF ?oN ?_ ?oz; (case oF => k_asm); (case oN => k_asm); (case oz => exact sz_small rfl); k_whole); intro _ _ _ _ lz; (try k_lt lz); (try (revert lz; intro _)); (try k_sweep))) | (with_reducible (show wpAny _ _ (subscriptTail (PySem.Expr.BinOp _ _ _ _) _ _ _) _ _ _; k_here; k_dflt (refine kba_turn (value' := PySem.Expr.Name (PySem.Str.ofString "k") ⟨0, 0, 0, 0⟩) (fun _ => rfl) ?_))) | walk1 | (dsimp only; walk1)))
    rename News _ _ _ _ => lN7
    refine eq_pairs lN7 mLt2 mLt7 hpt2 hpt7 (by first | ke_room | ktr_units) (by first | ke_room | ktr_units) ?_
    repeat' (first | (k_unfold; (try dsimp only); repeat (first | clear ek | clear qk)) | ((fail_if_success (with_reducible show wpAny _ _ (exec (Stmt.While _ _ _ _) _) _ _ _)); (fail_if_success (with_reducible show wpAny _ _ (exec (Stmt.For _ _ _ _ _) _) _ _ _)); (fail_if_success (with_reducible show wpAny _ _ (eval (Expr.ListComp _ _ _ _) _) _ _ _)); (fail_if_success (with_reducible show wpAny _ _ (exec (Stmt.Assign _ (Expr.ListComp _ _ _ _) _) _) _ _ _)); (fail_if_success (with_reducible show wpAny _ _ (pyIter _) _ _ _)); (fail_if_success (with_reducible show wpAny _ _ (call (Value.ref _) _) _ _ _)); (fail_if_success (with_reducible show wpAny _ _ (setItem _ _ _) _ _ _)); (fail_if_success (with_reducible show wpAny _ _ (call (Value.builtin "list.append") _) _ _ _)); (fail_if_success (with_reducible show wpAny _ _ (call (Value.builtin "sorted") _) _ _ _)); (fail_if_success (with_reducible show wpAny _ _ (call (Value.type "list") _) _ _ _)); (fail_if_success (with_reducible show wpAny _ _ (compareOp _ (Value.ref _) (Value.ref _)) _ _ _)); (fail_if_success (with_reducible show wpAny _ _ (call (Value.builtin "max") _) _ _ _)); first | ((first | (with_reducible show wpAny _ _ (exec _ _) _ _ _) | ((with_reducible show wpAny _ _ (eval _ _) _ _ _); (fail_if_success (with_reducible show wpAny _ _ (eval (PySem.Expr.Name _ _) _) _ _ _)); (fail_if_success (with_reducible show wpAny _ _ (eval (PySem.Expr.Constant _ _ _) _) _ _ _)); (fail_if_success (with_reducible show wpAny _ _ (eval (PySem.Expr.Subscript _ _ _) _) _ _ _)); (fail_if_success (with_reducible show wpAny _ _ (subscriptTail _ _ _ _) _ _ _)); (fail_if_success (with_reducible show wpAny _ _ (eval (PySem.Expr.Slice _ _ _ _) _) _ _ _)); (fail_if_success (with_reducible show wpAny _ _ (evalPart _ _) _ _ _)); skip)); k_fold) | (with_reducible (show wpAny _ _ (binaryOp Operator.Add (Value.int _ _) (Value.int _ _)) _ _ _; k_here; (refine my_add ?_); intro _ _ _)) | (with_reducible (show wpAny _ _ (binaryOp Operator.FloorDiv (Value.int _ _) (Value.int _ _)) _ _ _; k_here; (refine my_floordiv (by first | assumption | omega) (by first | assumption | omega) ?_); intro _ _ _)) | (with_reducible (show wpAny _ _ (binaryOp Operator.Mod (Value.int _ _) (Value.int _ _)) _ _ _; k_here; (refine my_mod (by first | assumption | exact one_add_pos (by assumption) (by assumption) | omega) ?_); intro _ _ _)) | (with_reducible (show wpAny _ _ (binaryOp Operator.Sub (Value.int _ _) (Value.int _ _)) _ _ _; k_here; (refine my_sub ?_); intro _ _ _)) | (with_reducible (show wpAny _ _ (call (Value.builtin "len") [Value.ref _]) _ _ _; k_here; k_dflt (refine' len_refs ?ok1 ?ok2 ?ok3 ?_; (case ok1 => k_asm); (case ok2 => k_mem); (case ok3 => first | assumption | omega); k_whole); intro _ _)) | (with_reducible (show wpAny _ _ (call (Value.type "range") _) _ _ _; k_here; k_dflt (first | (refine' my_range1 ?ok1 ?ok2 ?_; (case ok1 => k_asm); (case ok2 => k_asm); k_whole; intro _ _ _ _ _ _ _ _) | (refine' my_range2 ?ok1 ?ok2 ?_; (case ok1 => k_asm); (case ok2 => k_asm); k_whole; intro _ _ _ _ _ _ _)); (try k_sweep))) | (with_reducible (show wpAny _ _ (callWith _ (Value.ref _) _ _ _) _ _ _; k_here; k_dflt (first | (refine' callWith_K ?ok1 ?ok2 ?_; (case ok1 => k_asm); (case ok2 => k_is); k_whole) | (refine' callWith_K0 ?ok1 ?ok2 ?_; (case ok1 => k_in); (case ok2 => k_is); k_whole)))) | (with_reducible (show wpAny _ _ (eval (PySem.Expr.Name _ _) (compEnvC _ _ _ _)) _ _ _; k_here; k_dflt (first | (refine' ce_local ?oN ?om ?on ?ov ?_ ?oa ?ob; (case oa => rfl); (case ob => rfl); (case on => assumption); (case oN => k_asm); (case om => k_mem); (case ov => assumption); k_whole) | (refine' ce_cell ?oN ?oc ?om ?od ?_ ?oa ?ob; (case oa => rfl); (case ob => rfl); (case oN => k_asm); (case oc => rfl); (case om => k_mem); (case od => k_asm); k_whole) | (refine' ce_K ?oF ?oX ?oT ?oe ?_ ?og ?oa ?ob; (case og => rfl); (case oa => rfl); (case ob => rfl); (case oF => k_asm); (case oX => k_asm); (case oT => k_asm); (case oe => k_is); k_whole) | (refine' ce_B ?oF ?oX ?oT ?oe ?ov ?on ?_ ?og ?ogb ?oa ?ob; (case og => rfl); (case ogb => rfl); (case oa => rfl); (case ob => rfl); (case oF => k_asm); (case oX => k_asm); (case oT => k_asm); (case oe => k_is); (case ov => boot_fast); (case on => decide); k_whole)))) | (with_reducible (show wpAny _ _ (eval (PySem.Expr.Name _ _) _) _ _ _; k_here; k_dflt (first | (refine' nameX_F ?oN ?oc ?om ?od ?_ ?oa ?ob; (case oa => rfl); (case ob => rfl); (case oN => k_asm); (case oc => rfl); (case om => k_mem); (case od => k_asm); k_whole) | (refine' nameX_C ?oN ?oc ?om ?od ?_ ?oa ?ob; (case oa => rfl); (case ob => rfl); (case oN => k_asm); (case oc => rfl); (case om => k_mem); (case od => k_asm); k_whole)))) | (with_reducible (show wpAny _ _ (newList _) _ _ _; k_here; k_dflt (refine' newList_K ?ok1 ?ok2 ?_ ?ok3; (case ok1 => k_asm); (case ok2 => k_asm); (case ok3 => exact sz_small rfl); k_whole); intro _ _ _ _ lz; (try k_lt lz); (try (revert lz; intro _)); (try k_sweep))) | (with_reducible (show wpAny _ _ (newTuple _) _ _ _; k_here; k_dflt (refine' kup_newTuple ?oF ?oN ?_ ?oz; (case oF => k_asm); (case oN => k_asm); (case oz => exact sz_small rfl); k_whole); intro _ _ _ _ lz; (try k_lt lz); (try (revert lz; intro _)); (try k_sweep))) | (with_reducible (show wpAny _ _ (subscriptTail (PySem.Expr.BinOp _ _ _ _) _ _ _) _ _ _; k_here; k_dflt (refine kba_turn (value' := PySem.Expr.Name (PySem.Str.ofString "k") ⟨0, 0, 0, 0⟩) (fun _ => rfl) ?_))) | walk1 | (dsimp only; walk1)))
    rename News _ _ _ _ => lN8
    obtain ⟨⟨ps1, q1, -⟩, ⟨ps2, q2, -⟩⟩ := tb7
    refine eq_refs (xs := []) lN8 (List.mem_cons_of_mem _ mW7) List.mem_cons_self (by first | ke_room | ktr_units) ?_
    repeat' ((fail_if_success (with_reducible show GoodW _ _ _ _ _ _ _)); (fail_if_success (with_reducible show GrownAll _ _)); (first | (k_unfold; (try dsimp only); repeat (first | clear ek | clear qk)) | ((fail_if_success (with_reducible show wpAny _ _ (exec (Stmt.While _ _ _ _) _) _ _ _)); (fail_if_success (with_reducible show wpAny _ _ (exec (Stmt.For _ _ _ _ _) _) _ _ _)); (fail_if_success (with_reducible show wpAny _ _ (eval (Expr.ListComp _ _ _ _) _) _ _ _)); (fail_if_success (with_reducible show wpAny _ _ (exec (Stmt.Assign _ (Expr.ListComp _ _ _ _) _) _) _ _ _)); (fail_if_success (with_reducible show wpAny _ _ (pyIter _) _ _ _)); (fail_if_success (with_reducible show wpAny _ _ (call (Value.ref _) _) _ _ _)); (fail_if_success (with_reducible show wpAny _ _ (setItem _ _ _) _ _ _)); (fail_if_success (with_reducible show wpAny _ _ (call (Value.builtin "list.append") _) _ _ _)); (fail_if_success (with_reducible show wpAny _ _ (call (Value.builtin "sorted") _) _ _ _)); (fail_if_success (with_reducible show wpAny _ _ (call (Value.type "list") _) _ _ _)); (fail_if_success (with_reducible show wpAny _ _ (compareOp _ (Value.ref _) (Value.ref _)) _ _ _)); (fail_if_success (with_reducible show wpAny _ _ (call (Value.builtin "max") _) _ _ _)); first | ((first | (with_reducible show wpAny _ _ (exec _ _) _ _ _) | ((with_reducible show wpAny _ _ (eval _ _) _ _ _); (fail_if_success (with_reducible show wpAny _ _ (eval (PySem.Expr.Name _ _) _) _ _ _)); (fail_if_success (with_reducible show wpAny _ _ (eval (PySem.Expr.Constant _ _ _) _) _ _ _)); (fail_if_success (with_reducible show wpAny _ _ (eval (PySem.Expr.Subscript _ _ _) _) _ _ _)); (fail_if_success (with_reducible show wpAny _ _ (subscriptTail _ _ _ _) _ _ _)); (fail_if_success (with_reducible show wpAny _ _ (eval (PySem.Expr.Slice _ _ _ _) _) _ _ _)); (fail_if_success (with_reducible show wpAny _ _ (evalPart _ _) _ _ _)); skip)); k_fold) | (with_reducible (show wpAny _ _ (binaryOp Operator.Add (Value.int _ _) (Value.int _ _)) _ _ _; k_here; (refine my_add ?_); intro _ _ _)) | (with_reducible (show wpAny _ _ (binaryOp Operator.FloorDiv (Value.int _ _) (Value.int _ _)) _ _ _; k_here; (refine my_floordiv (by first | assumption | omega) (by first | assumption | omega) ?_); intro _ _ _)) | (with_reducible (show wpAny _ _ (binaryOp Operator.Mod (Value.int _ _) (Value.int _ _)) _ _ _; k_here; (refine my_mod (by first | assumption | exact one_add_pos (by assumption) (by assumption) | omega) ?_); intro _ _ _)) | (with_reducible (show wpAny _ _ (binaryOp Operator.Sub (Value.int _ _) (Value.int _ _)) _ _ _; k_here; (refine my_sub ?_); intro _ _ _)) | (with_reducible (show wpAny _ _ (call (Value.builtin "len") [Value.ref _]) _ _ _; k_here; k_dflt (refine' len_refs ?ok1 ?ok2 ?ok3 ?_; (case ok1 => k_asm); (case ok2 => k_mem); (case ok3 => first | assumption | omega); k_whole); intro _ _)) | (with_reducible (show wpAny _ _ (call (Value.type "range") _) _ _ _; k_here; k_dflt (first | (refine' my_range1 ?ok1 ?ok2 ?_; (case ok1 => k_asm); (case ok2 => k_asm); k_whole; intro _ _ _ _ _ _ _ _) | (refine' my_range2 ?ok1 ?ok2 ?_; (case ok1 => k_asm); (case ok2 => k_asm); k_whole; intro _ _ _ _ _ _ _)); (try k_sweep))) | (with_reducible (show wpAny _ _ (callWith _ (Value.ref _) _ _ _) _ _ _; k_here; k_dflt (first | (refine' callWith_K ?ok1 ?ok2 ?_; (case ok1 => k_asm); (case ok2 => k_is); k_whole) | (refine' callWith_K0 ?ok1 ?ok2 ?_; (case ok1 => k_in); (case ok2 => k_is); k_whole)))) | (with_reducible (show wpAny _ _ (eval (PySem.Expr.Name _ _) (compEnvC _ _ _ _)) _ _ _; k_here; k_dflt (first | (refine' ce_local ?oN ?om ?on ?ov ?_ ?oa ?ob; (case oa => rfl); (case ob => rfl); (case on => assumption); (case oN => k_asm); (case om => k_mem); (case ov => assumption); k_whole) | (refine' ce_cell ?oN ?oc ?om ?od ?_ ?oa ?ob; (case oa => rfl); (case ob => rfl); (case oN => k_asm); (case oc => rfl); (case om => k_mem); (case od => k_asm); k_whole) | (refine' ce_K ?oF ?oX ?oT ?oe ?_ ?og ?oa ?ob; (case og => rfl); (case oa => rfl); (case ob => rfl); (case oF => k_asm); (case oX => k_asm); (case oT => k_asm); (case oe => k_is); k_whole) | (refine' ce_B ?oF ?oX ?oT ?oe ?ov ?on ?_ ?og ?ogb ?oa ?ob; (case og => rfl); (case ogb => rfl); (case oa => rfl); (case ob => rfl); (case oF => k_asm); (case oX => k_asm); (case oT => k_asm); (case oe => k_is); (case ov => boot_fast); (case on => decide); k_whole)))) | (with_reducible (show wpAny _ _ (eval (PySem.Expr.Name _ _) _) _ _ _; k_here; k_dflt (first | (refine' nameX_F ?oN ?oc ?om ?od ?_ ?oa ?ob; (case oa => rfl); (case ob => rfl); (case oN => k_asm); (case oc => rfl); (case om => k_mem); (case od => k_asm); k_whole) | (refine' nameX_C ?oN ?oc ?om ?od ?_ ?oa ?ob; (case oa => rfl); (case ob => rfl); (case oN => k_asm); (case oc => rfl); (case om => k_mem); (case od => k_asm); k_whole)))) | (with_reducible (show wpAny _ _ (newList _) _ _ _; k_here; k_dflt (refine' newList_K ?ok1 ?ok2 ?_ ?ok3; (case ok1 => k_asm); (case ok2 => k_asm); (case ok3 => exact sz_small rfl); k_whole); intro _ _ _ _ lz; (try k_lt lz); (try (revert lz; intro _)); (try k_sweep))) | (with_reducible (show wpAny _ _ (newTuple _) _ _ _; k_here; k_dflt (refine' kup_newTuple ?oF ?oN ?_ ?oz; (case oF => k_asm); (case oN => k_asm); (case oz => exact sz_small rfl); k_whole); intro _ _ _ _ lz; (try k_lt lz); (try (revert lz; intro _)); (try k_sweep))) | (with_reducible (show wpAny _ _ (subscriptTail (PySem.Expr.BinOp _ _ _ _) _ _ _) _ _ _; k_here; k_dflt (refine kba_turn (value' := PySem.Expr.Name (PySem.Str.ofString "k") ⟨0, 0, 0, 0⟩) (fun _ => rfl) ?_))) | walk1 | (dsimp only; walk1))))
    rotate_left
    · exact ⟨GrownAt.of lN8 (List.mem_cons_of_mem _ q2), GrownAt.of lN8 (List.mem_cons_of_mem _ q1), trivial⟩
    · refine goodW_bool (by with_reducible assumption) (by with_reducible assumption) (raisesW_false ?_) ?_
      · wrow_none_raised
      · kc_post)
end
end Mine
theorem PySem.Challenge.cw_op0097_01_holds : PySem.Challenge.rw_op0097_01.Holds :=
  Mine.law_holds
