import PyProof.Rows.All
import Wide.All
import OpenK.AllK
import Wide.FinOn
import PySem.Challenge.RW_rs0250_02
set_option Elab.async false

namespace Mine
open PySem PySem.W PyProof.Rows
set_option maxRecDepth 100000

theorem fr_at {h₀ h : Heap} {L : Addr} {m : Str → Option Value} {k : Str} {v : Value} (F : Fr h₀ L h m) (e : m k = some v) :
    Fr h₀ L h (fun z => if z = k then some v else m z) := by
  have em : (fun z => if z = k then some v else m z) = m := by
    funext z
    by_cases hz : z = k
    · rw [if_pos hz, hz, e]
    · rw [if_neg hz]
  rw [em]
  exact F

section
variable {prog : Program} {w : World} {A : Around} {E : Value → Shared → Prop} {s : Shared} {env : Env} {h₀ : Heap} {x : Str} {body : List Stmt} {Q : Flow → Shared → Prop}

theorem range_inv {r : Addr} {a₀ b₀ : Int} {t₀ u₀ v₀ : Tok} {n : Nat} {m₀ : Str → Option Value} {news : List (Addr × Obj)} (J : Nat → (Str → Option Value) → List (Addr × Obj) → Prop)
    (hh : A.handled = none) (hr : IsRange s.heap r a₀ b₀ 1 t₀ u₀ v₀) (hsmall : Builtin.Range.small a₀ b₀ 1 = true) (hn : Builtin.Range.rangeSize a₀ b₀ 1 = (n : Int))
    (F : Fr h₀ env.locals s.heap m₀) (N : News h₀ env.locals s.heap news) (hj : J 0 m₀ news)
    (turn : ∀ (i : Nat) t (m₁ : Str → Option Value) (news₁ : List (Addr × Obj)) h tk own, i < n → news₁.map (·.1) = news.map (·.1) → OwnOff own (news.map (·.1)) → J i m₁ news₁ →
      Fr h₀ env.locals h (fun y => if y = x then some (.int (a₀ + i) t) else m₁ y) → News h₀ env.locals h (news₁ ++ own) →
      wpAny (model prog w) A (execs body env) (InvPostN h₀ env.locals (J (i + 1)) own (news.map (·.1)) { s with heap := h, toks := tk } Q) E { s with heap := h, toks := tk })
    (done : ∀ m₁ news₁ h tk, J n m₁ news₁ → Fr h₀ env.locals h m₁ → News h₀ env.locals h news₁ → Q .next { s with heap := h, toks := tk }) :
    wpAny (model prog w) A (pyIter (.ref r)) (fun it s₂ => LoopAtV prog w A h₀ env x body Q E it s₂) E s := by
  refine wpAny_pyIter_range hr hsmall ?_
  have W : Walks prog w A s.heap.objs.size [s.heap.objs.size] [s.heap.objs.size] n (fun i v => i < n ∧ ∃ t, v = .int (a₀ + i * 1) t)
      (fun i h => IsRangeIter h s.heap.objs.size (a₀ + (i : Nat) * 1) ((n : Int) - (i : Nat)) 1) := (Walks.range hh _ a₀ 1 n).bound
  refine loop_invN J W ?_ ?_ ?_ ?_ (by show IsRangeIter _ _ _ _ _; rw [hn]; simpa using Heap.get?_push_size _ rfl) (F.push _)
    (fun p hp => ⟨Heap.get?_push_of_some _ (N p hp).1, (N p hp).2⟩) hj ?_ done
  · intro hm
    exact absurd F.ns.lt ((List.mem_singleton.mp hm) ▸ Nat.lt_irrefl _)
  · intro b hb
    rw [List.mem_singleton.mp hb]
    exact next_is_new F
  · intro p hp hI
    exact absurd (Heap.lt_size (N p hp).1) ((List.mem_singleton.mp hI) ▸ Nat.lt_irrefl _)
  · intro p hp hI
    exact absurd (Heap.lt_size (N p hp).1) ((List.mem_singleton.mp hI) ▸ Nat.lt_irrefl _)
  · rintro i v m₁ nx h tk own hi ⟨_, t, rfl⟩ ha hoff hJ F₁ N₁
    have e1 : a₀ + (i : Int) * 1 = a₀ + (i : Int) := by omega
    rw [e1] at F₁
    exact turn i t m₁ nx h tk own hi ha hoff hJ F₁ N₁
end

structure Pref (prog : Program) (w : World) (news : List (Addr × Obj)) (pv : Value) (ns : List Int) (It : Int → Value → Prop) : Prop where
  len : ∀ {A : Around} {E : Value → Shared → Prop} {s : Shared} {h₀ : Heap} {L : Addr} {Q : Value → Shared → Prop}, News h₀ L s.heap news →
    (∀ t tk, Q (.int ns.length t) { s with toks := tk }) → wpAny (model prog w) A (call (.builtin "len") [pv]) Q E s
  item : ∀ {A : Around} {E : Value → Shared → Prop} {s : Shared} {h₀ : Heap} {L : Addr} {Q : Value → Shared → Prop} {i : Int} {t : Tok} {x y : Str} {p q : Pos}, News h₀ L s.heap news →
    0 ≤ i → i < ns.length → (∀ v tk, It (ns.getD i.toNat 0) v → Q v { s with toks := tk }) → wpAny (model prog w) A (subscriptTail (.Name x p) (.Name y q) pv (.int i t)) Q E s
  ne : ∀ {A : Around} {E : Value → Shared → Prop} {s : Shared} {Q : Value → Shared → Prop} {x y : Int} {v v' : Value}, It x v → It y v' →
    Q (.bool (x != y)) s → wpAny (model prog w) A (compareOp .NotEq v v') Q E s
end Mine

namespace Mine
open PySem PySem.W PyProof.Rows
set_option maxRecDepth 100000

/-- a stop of the walk -/
def Halt (P : Prop) : Prop := P
theorem halt {P : Prop} (h : Halt P) : P := h
theorem Halt.go {P : Prop} (h : P) : Halt P := h

/-- the while's post, with a measure -/
def WPost (P : Nat → Shared → Prop) (n : Nat) (Q : Flow → Shared → Prop) (f : Flow) (s : Shared) : Prop :=
  match f with
  | .next => ∃ k, k < n ∧ P k s
  | .cont => ∃ k, k < n ∧ P k s
  | .brk => Q .next s
  | .ret v => Q (.ret v) s

theorem whl_ind {prog : Program} {w : World} {A : Around} {E : Value → Shared → Prop} {s : Shared} {env : Env} {test : PySem.Expr} {body orelse : List Stmt} {pos : Pos} {Q : Flow → Shared → Prop} (P : Nat → Shared → Prop) (hE : PassesOwn (model prog w) A env E)
    (turn : ∀ n s, P n s → wpAny (model prog w) A (isTrue test env (eval test env)) (fun b s₂ => (b = true → wpAny (model prog w) A (execs body env) (WPost P n Q) E s₂) ∧ (b = false → wpAny (model prog w) A (execs orelse env) Q E s₂)) E s)
    (n : Nat) (h : P n s) : wpAny (model prog w) A (exec (.While test body orelse pos) env) Q E s := by
  refine whl_start 1 ?_
  have key : ∀ n s, P n s → WhlRest prog w A E env test body orelse Q 1 s := by
    intro n
    induction n using Nat.strongRecOn with
    | ind n ih =>
      intro s h
      refine whl_turn (k := 0) hE (wpAny_mono (turn n s h) (fun b s₂ hb => ?_) fun _ _ e => e)
      cases b with
      | true =>
        refine WhlIf.yes rfl (wpAny_mono (hb.1 rfl) (fun f s₃ hf => ?_) fun _ _ e => e)
        cases f with
        | next => obtain ⟨k, hk, hp⟩ := hf; exact ih k hk _ hp
        | cont => obtain ⟨k, hk, hp⟩ := hf; exact ih k hk _ hp
        | brk => exact hf
        | ret v => exact hf
      | false => exact WhlIf.no rfl (hb.2 rfl)
  exact key n s h

theorem fr2 {h₀ h : Heap} {L : Addr} {m : Str → Option Value} {k1 k2 : Str} {v1 v2 : Value} (F : Fr h₀ L h m) (e1 : m k1 = some v1) (e2 : m k2 = some v2) :
    Fr h₀ L h (fun z => if z = k1 then some v1 else if z = k2 then some v2 else m z) := by
  have em : (fun z => if z = k1 then some v1 else if z = k2 then some v2 else m z) = m := by
    funext z
    split
    · rename_i h; rw [h, e1]
    · split
      · rename_i h; rw [h, e2]
      · rfl
  rw [em]
  exact F
theorem fr3 {h₀ h : Heap} {L : Addr} {m : Str → Option Value} {k1 k2 k3 : Str} {v1 v2 v3 : Value} (F : Fr h₀ L h m) (e1 : m k1 = some v1) (e2 : m k2 = some v2) (e3 : m k3 = some v3) :
    Fr h₀ L h (fun z => if z = k1 then some v1 else if z = k2 then some v2 else if z = k3 then some v3 else m z) := by
  have em : (fun z => if z = k1 then some v1 else if z = k2 then some v2 else if z = k3 then some v3 else m z) = m := by
    funext z
    split
    · rename_i h; rw [h, e1]
    · split
      · rename_i h; rw [h, e2]
      · split
        · rename_i h; rw [h, e3]
        · rfl
  rw [em]
  exact F
theorem fr4 {h₀ h : Heap} {L : Addr} {m : Str → Option Value} {k1 k2 k3 k4 : Str} {v1 v2 v3 v4 : Value} (F : Fr h₀ L h m) (e1 : m k1 = some v1) (e2 : m k2 = some v2) (e3 : m k3 = some v3) (e4 : m k4 = some v4) :
    Fr h₀ L h (fun z => if z = k1 then some v1 else if z = k2 then some v2 else if z = k3 then some v3 else if z = k4 then some v4 else m z) := by
  have em : (fun z => if z = k1 then some v1 else if z = k2 then some v2 else if z = k3 then some v3 else if z = k4 then some v4 else m z) = m := by
    funext z
    split
    · rename_i h; rw [h, e1]
    · split
      · rename_i h; rw [h, e2]
      · split
        · rename_i h; rw [h, e3]
        · split
          · rename_i h; rw [h, e4]
          · rfl
  rw [em]
  exact F
theorem news_dup {h₀ h : Heap} {L : Addr} {news : List (Addr × Obj)} {p : Addr × Obj} (N : News h₀ L h news) (hp : p ∈ news) : News h₀ L h (p :: news) := fun q hq => by
  rcases List.mem_cons.mp hq with rfl | hq
  · exact N _ hp
  · exact N q hq
theorem small_up {n : Nat} (h : n ≤ 12) : Builtin.Range.small 1 (n : Int) 1 = true := by
  have : n = 0 ∨ n = 1 ∨ n = 2 ∨ n = 3 ∨ n = 4 ∨ n = 5 ∨ n = 6 ∨ n = 7 ∨ n = 8 ∨ n = 9 ∨ n = 10 ∨ n = 11 ∨ n = 12 := by omega
  rcases this with h | h | h | h | h | h | h | h | h | h | h | h | h <;> subst h <;> decide
theorem small_up0 {n : Nat} (h : n ≤ 12) : Builtin.Range.small 0 (n : Int) 1 = true := by
  have : n = 0 ∨ n = 1 ∨ n = 2 ∨ n = 3 ∨ n = 4 ∨ n = 5 ∨ n = 6 ∨ n = 7 ∨ n = 8 ∨ n = 9 ∨ n = 10 ∨ n = 11 ∨ n = 12 := by omega
  rcases this with h | h | h | h | h | h | h | h | h | h | h | h | h <;> subst h <;> decide
theorem range_size {n : Nat} : Builtin.Range.rangeSize 1 (n : Int) 1 = ((n - 1 : Nat) : Int) := by
  unfold Builtin.Range.rangeSize
  simp
  split <;> omega
theorem range_size0 {n : Nat} : Builtin.Range.rangeSize 0 (n : Int) 1 = (n : Int) := by
  unfold Builtin.Range.rangeSize
  simp
  omega
/-- the end of a piece of a body -/
def SegEnd (Mid : Shared → Prop) (f : Flow) (s : Shared) : Prop := f = .next ∧ Mid s
theorem seg_wp {M : Model} {Γ : Ctx} {E : Value → Shared → Prop} {env : Env} {Q : Flow → Shared → Prop} {rest : List Stmt} (Mid : Shared → Prop) (h2 : ∀ p s', Mid s' → Sem.wp M Γ (execs rest env) (fun a _ s' => Q a s') (fun e _ s' => E e s') p s') :
    ∀ {pre : List Stmt} {p : Pos} {s : Shared}, Sem.wp M Γ (execs pre env) (fun a _ s' => SegEnd Mid a s') (fun e _ s' => E e s') p s → Sem.wp M Γ (execs (pre ++ rest) env) (fun a _ s' => Q a s') (fun e _ s' => E e s') p s
  | [], p, s, h => by
    have h' : SegEnd Mid .next s := h
    exact h2 p s h'.2
  | a :: pre, p, s, h => by
    show Sem.wp M Γ (execs (a :: (pre ++ rest)) env) _ _ p s
    rw [PySem.execs_cons, Sem.wp_bind'] at h ⊢
    refine Sem.wp_mono M Γ _ (fun f p' s' h3 => ?_) (fun _ _ _ h3 => h3) p s h
    cases f with
    | next => exact seg_wp Mid h2 h3
    | brk => have h' : SegEnd Mid .brk s' := h3; exact absurd h'.1 nofun
    | cont => have h' : SegEnd Mid .cont s' := h3; exact absurd h'.1 nofun
    | ret v => have h' : SegEnd Mid (.ret v) s' := h3; exact absurd h'.1 nofun
theorem seg_cut {M : Model} {A : Around} {E : Value → Shared → Prop} {s : Shared} {env : Env} {Q : Flow → Shared → Prop} {pre rest : List Stmt} (Mid : Shared → Prop) (h1 : wpAny M A (execs pre env) (SegEnd Mid) E s) (h2 : ∀ s', Mid s' → wpAny M A (execs rest env) Q E s') :
    wpAny M A (execs (pre ++ rest) env) Q E s := fun Γ p hΓ => seg_wp Mid (fun p s' hm => h2 s' hm Γ p hΓ) (h1 Γ p hΓ)

theorem allLt_ne {D : Addr} {l : List (Addr × Obj)} (h : AllLt D l) : ∀ p ∈ l, p.1 ≠ D := by
  induction l with
  | nil => intro p hp; cases hp
  | cons q r ih =>
    intro p hp
    rcases List.mem_cons.mp hp with rfl | hp
    · exact Nat.ne_of_lt h.1
    · exact ih h.2 p hp
end Mine

namespace Mine
/-! the plain law: borders, the overlap table, the critical cut -/

def greatest (p : Nat → Bool) : Nat → Nat
  | 0 => 0
  | k + 1 => if p k then k else greatest p k

theorem greatest_spec {p : Nat → Bool} : ∀ {k : Nat}, (∃ b, b < k ∧ p b = true) → p (greatest p k) = true ∧ greatest p k < k ∧ ∀ b, b < k → p b = true → b ≤ greatest p k
  | 0, ⟨_, h, _⟩ => absurd h (Nat.not_lt_zero _)
  | k + 1, ⟨b, hb, hp⟩ => by
    unfold greatest
    by_cases hk : p k = true
    · rw [if_pos hk]
      exact ⟨hk, Nat.lt_succ_self _, fun c hc _ => by omega⟩
    · rw [if_neg hk]
      have hne : b ≠ k := fun e => hk (e ▸ hp)
      have ih := greatest_spec (p := p) (k := k) ⟨b, by omega, hp⟩
      refine ⟨ih.1, by omega, fun c hc hpc => ?_⟩
      have : c ≠ k := fun e => hk (e ▸ hpc)
      exact ih.2.2 c (by omega) hpc

def Bd (ns : List Int) (m b : Nat) : Prop := b < m ∧ ∀ j, j < b → ns.getD j 0 = ns.getD (m - b + j) 0
def bdB (ns : List Int) (m b : Nat) : Bool := decide (b < m) && (List.range b).all fun j => ns.getD j 0 == ns.getD (m - b + j) 0
theorem bdB_iff {ns : List Int} {m b : Nat} : bdB ns m b = true ↔ Bd ns m b := by
  unfold bdB Bd
  simp
def bordN (ns : List Int) (m : Nat) : Nat := greatest (bdB ns m) m

theorem bd_zero {ns : List Int} {m : Nat} (h : 0 < m) : Bd ns m 0 := ⟨h, fun _ hj => absurd hj (Nat.not_lt_zero _)⟩
theorem bordN_bd {ns : List Int} {m : Nat} (h : 0 < m) : Bd ns m (bordN ns m) :=
  bdB_iff.mp (greatest_spec ⟨0, h, bdB_iff.mpr (bd_zero h)⟩).1
theorem bordN_max {ns : List Int} {m b : Nat} (hb : Bd ns m b) : b ≤ bordN ns m :=
  (greatest_spec ⟨b, hb.1, bdB_iff.mpr hb⟩).2.2 b hb.1 (bdB_iff.mpr hb)
theorem bordN_eq {ns : List Int} {m b : Nat} (hb : Bd ns m b) (hm : ∀ c, Bd ns m c → c ≤ b) : bordN ns m = b :=
  Nat.le_antisymm (hm _ (bordN_bd (Nat.lt_of_le_of_lt (Nat.zero_le _) hb.1))) (bordN_max hb)
theorem bordN_lt {ns : List Int} {m : Nat} (h : 0 < m) : bordN ns m < m := (bordN_bd h).1

/-- what the inner loop keeps: idx is a border of the first k numbers, and no border of k + 1 is longer than idx + 1 -/
def Inv (ns : List Int) (k idx : Nat) : Prop := Bd ns k idx ∧ ∀ b, Bd ns (k + 1) (b + 1) → b ≤ idx

theorem bd_pred {ns : List Int} {k b : Nat} (h : Bd ns (k + 1) (b + 1)) : Bd ns k b := by
  refine ⟨by have := h.1; omega, fun j hj => ?_⟩
  have := h.2 j (by omega)
  have e : k + 1 - (b + 1) + j = k - b + j := by omega
  rw [e] at this
  exact this
theorem bd_last {ns : List Int} {k b : Nat} (h : Bd ns (k + 1) (b + 1)) : ns.getD b 0 = ns.getD k 0 := by
  have := h.2 b (by omega)
  have h1 := h.1
  have e : k + 1 - (b + 1) + b = k := by omega
  rw [e] at this
  exact this
theorem bd_more {ns : List Int} {k b : Nat} (h : Bd ns k b) (e : ns.getD b 0 = ns.getD k 0) : Bd ns (k + 1) (b + 1) := by
  refine ⟨by have := h.1; omega, fun j hj => ?_⟩
  have h1 := h.1
  by_cases hjb : j = b
  · subst hjb
    have : k + 1 - (j + 1) + j = k := by omega
    rw [this]; exact e
  · have := h.2 j (by omega)
    have e2 : k + 1 - (b + 1) + j = k - b + j := by omega
    rw [e2]; exact this
theorem bd_trans {ns : List Int} {k c b : Nat} (h : Bd ns k c) (h' : Bd ns c b) : Bd ns k b := by
  have h1 := h.1
  have h2 := h'.1
  refine ⟨by omega, fun j hj => ?_⟩
  have e1 := h'.2 j hj
  have e2 := h.2 (c - b + j) (by omega)
  have e3 : k - c + (c - b + j) = k - b + j := by omega
  rw [e1, e2, e3]
theorem bd_of_two {ns : List Int} {k c b : Nat} (h : Bd ns k c) (h' : Bd ns k b) (hlt : b < c) : Bd ns c b := by
  have h1 := h.1
  have h2 := h'.1
  refine ⟨hlt, fun j hj => ?_⟩
  have e1 := h'.2 j hj
  have e2 := h.2 (c - b + j) (by omega)
  have e3 : k - c + (c - b + j) = k - b + j := by omega
  rw [e1, e2, e3]

theorem inv_start {ns : List Int} {k : Nat} (h : 0 < k) : Inv ns k (bordN ns k) := ⟨bordN_bd h, fun _ hb => bordN_max (bd_pred hb)⟩
theorem inv_step {ns : List Int} {k idx : Nat} (h : Inv ns k idx) (hne : ns.getD k 0 ≠ ns.getD idx 0) (h0 : 0 < idx) : Inv ns k (bordN ns idx) := by
  refine ⟨bd_trans h.1 (bordN_bd h0), fun b hb => ?_⟩
  have h1 := h.2 b hb
  have h2 : b ≠ idx := fun e => hne (by rw [← e]; exact (bd_last hb).symm)
  exact bordN_max (bd_of_two h.1 (bd_pred hb) (by omega))
theorem inv_found {ns : List Int} {k idx : Nat} (h : Inv ns k idx) (he : ns.getD k 0 = ns.getD idx 0) : bordN ns (k + 1) = idx + 1 := by
  refine bordN_eq (bd_more h.1 he.symm) fun c hc => ?_
  cases c with
  | zero => omega
  | succ b => have := h.2 b hc; omega
theorem inv_none {ns : List Int} {k : Nat} (h : Inv ns k 0) (hne : ns.getD k 0 ≠ ns.getD 0 0) : bordN ns (k + 1) = 0 := by
  refine bordN_eq (bd_zero (by omega)) fun c hc => ?_
  cases c with
  | zero => omega
  | succ b =>
    exfalso
    have h1 := h.2 b hc
    have h2 : b = 0 := by omega
    subst h2
    exact hne (bd_last hc).symm
theorem inv_lt {ns : List Int} {k idx : Nat} (h : Inv ns k idx) : idx < k := h.1.1

def tab (ns : List Int) : List Int := (List.range ns.length).map fun i => (bordN ns (i + 1) : Int)
theorem tab_length (ns : List Int) : (tab ns).length = ns.length := by simp [tab]
theorem tab_get {ns : List Int} {i : Nat} (h : i < ns.length) : (tab ns).getD i 0 = (bordN ns (i + 1) : Int) := by
  simp [tab, List.getD, h]
theorem tab_eq {ns ts : List Int} (hl : ts.length = ns.length) (h : ∀ i, i < ns.length → ts.getD i 0 = (bordN ns (i + 1) : Int)) : ts = tab ns := by
  apply List.ext_getElem
  · rw [hl, tab_length]
  · intro i h1 h2
    have := h i (by omega)
    rw [← tab_get (by omega)] at this
    simpa [List.getD, h1, h2] using this
theorem tab_one {ns : List Int} : bordN ns 1 = 0 := by
  have := bordN_lt (ns := ns) (m := 1) (by omega)
  omega
end Mine

namespace Mine
/-! the order of lists of ints; the critical factorization -/

/-- Python's order of two lists of ints -/
def lexLt : List Int → List Int → Bool
  | [], [] => false
  | [], _ :: _ => true
  | _ :: _, [] => false
  | x :: xs, y :: ys => if x = y then lexLt xs ys else decide (x < y)

theorem lex_trans : ∀ {a b c : List Int}, lexLt a b = true → lexLt b c = true → lexLt a c = true
  | [], [], _, h, _ => by simp [lexLt] at h
  | [], _ :: _, [], _, h => by simp [lexLt] at h
  | [], _ :: _, _ :: _, _, _ => by simp [lexLt]
  | _ :: _, [], _, h, _ => by simp [lexLt] at h
  | _ :: _, _ :: _, [], _, h => by simp [lexLt] at h
  | x :: xs, y :: ys, z :: zs, h1, h2 => by
    unfold lexLt at h1 h2 ⊢
    by_cases e1 : x = y
    · rw [if_pos e1] at h1
      subst e1
      by_cases e2 : x = z
      · rw [if_pos e2] at h2 ⊢
        exact lex_trans h1 h2
      · rw [if_neg e2] at h2 ⊢
        exact h2
    · rw [if_neg e1] at h1
      have l1 : x < y := of_decide_eq_true h1
      by_cases e2 : y = z
      · subst e2
        rw [if_neg e1]
        exact h1
      · rw [if_neg e2] at h2
        have l2 : y < z := of_decide_eq_true h2
        rw [if_neg (by omega)]
        exact decide_eq_true (by omega)
theorem lex_irrefl : ∀ a : List Int, lexLt a a = false
  | [] => rfl
  | x :: xs => by
    unfold lexLt
    rw [if_pos rfl]
    exact lex_irrefl xs

/-- where two lists part for the first time -/
theorem lex_part : ∀ {a b : List Int} (k : Nat), (∀ j, j < k → a.getD j 0 = b.getD j 0) → k < a.length → k < b.length → a.getD k 0 < b.getD k 0 → lexLt a b = true
  | [], _, _, _, h, _, _ => absurd h (Nat.not_lt_zero _)
  | _ :: _, [], _, _, _, h, _ => absurd h (Nat.not_lt_zero _)
  | x :: xs, y :: ys, 0, _, _, _, h => by
    have h' : x < y := by simpa using h
    unfold lexLt
    rw [if_neg (by omega)]
    exact decide_eq_true h'
  | x :: xs, y :: ys, k + 1, he, h1, h2, h => by
    have e : x = y := by simpa using he 0 (by omega)
    unfold lexLt
    rw [if_pos e]
    refine lex_part k (fun j hj => ?_) (by simpa using h1) (by simpa using h2) (by simpa using h)
    simpa using he (j + 1) (by omega)
theorem lex_prefix : ∀ {a b : List Int}, (∀ j, j < a.length → a.getD j 0 = b.getD j 0) → a.length < b.length → lexLt a b = true
  | [], [], _, h => absurd h (Nat.lt_irrefl _)
  | [], _ :: _, _, _ => rfl
  | _ :: _, [], _, h => absurd h (Nat.not_lt_zero _)
  | x :: xs, y :: ys, he, h => by
    have e : x = y := by simpa using he 0 (by simp)
    unfold lexLt
    rw [if_pos e]
    refine lex_prefix (fun j hj => ?_) (by simpa using h)
    simpa using he (j + 1) (by simpa using hj)

theorem getD_drop {l : List Int} {a j : Nat} : (l.drop a).getD j 0 = l.getD (a + j) 0 := by simp [List.getD]
def neg1 (l : List Int) : List Int := l.map fun n => -n
theorem neg1_len (l : List Int) : (neg1 l).length = l.length := by simp [neg1]
theorem getD_neg {l : List Int} {j : Nat} : (neg1 l).getD j 0 = - l.getD j 0 := by
  simp only [neg1, List.getD, List.getElem?_map]
  cases l[j]? <;> simp
theorem neg1_drop (l : List Int) (a : Nat) : neg1 (l.drop a) = (neg1 l).drop a := by simp [neg1, List.map_drop]
theorem neg1_neg1 (l : List Int) : neg1 (neg1 l) = l := by simp [neg1, List.map_map, Function.comp_def]

/-- a step that leaves the row as it is around the cut -/
def Lp (ns : List Int) (k p : Nat) : Prop := ∀ j, k - p ≤ j → j < min k (ns.length - p) → ns.getD j 0 = ns.getD (j + p) 0
def IsLocal (ns : List Int) (k p : Nat) : Prop := 0 < p ∧ p ≤ ns.length ∧ Lp ns k p ∧ ∀ q, 0 < q → q < p → ¬ Lp ns k q
def Per (ns : List Int) (p : Nat) : Prop := ∀ j, j + p < ns.length → ns.getD j 0 = ns.getD (j + p) 0
/-- the greatest end of a row begins at i -/
def Top1 (l : List Int) (i : Nat) : Prop := i < l.length ∧ ∀ j, j < l.length → lexLt (l.drop i) (l.drop j) = false

theorem per_lp {ns : List Int} {k p : Nat} (h : Per ns p) : Lp ns k p := fun j _ hj => h j (by omega)

/-- no position is the first at which v and z part, if both orders hold v up -/
theorem both_prefix {v z : List Int} (h1 : lexLt v z = false) (h2 : lexLt (neg1 v) (neg1 z) = false) (hl : z.length ≤ v.length) : ∀ k, k < z.length → v.getD k 0 = z.getD k 0 := by
  intro k
  induction k using Nat.strongRecOn with
  | ind k ih =>
    intro hk
    have he : ∀ j, j < k → v.getD j 0 = z.getD j 0 := fun j hj => ih j hj (by omega)
    by_cases c1 : v.getD k 0 < z.getD k 0
    · rw [lex_part k he (by omega) hk c1] at h1
      cases h1
    · by_cases c2 : z.getD k 0 < v.getD k 0
      · have : lexLt (neg1 v) (neg1 z) = true := by
          refine lex_part k (fun j hj => ?_) (by rw [neg1_len]; omega) (by rw [neg1_len]; omega) ?_
          · rw [getD_neg, getD_neg, he j hj]
          · rw [getD_neg, getD_neg]; omega
        rw [this] at h2
        cases h2
      · omega

theorem crit_half {l : List Int} {i i' p : Nat} (hi : Top1 l i) (hi' : Top1 (neg1 l) i') (hle : i' ≤ i) (hp : 0 < p) (h : Lp l i p) : Per l p := by
  have hil := hi.1
  by_cases hpi : p ≤ i
  · exfalso
    -- the repetition lies wholly on the left
    have hd := hi.2 (i - p) (by omega)
    by_cases hr : i + p < l.length
    · have hv := hi.2 (i + p) hr
      -- v = l.drop i, z = l.drop (i + p): z ≤ v, and x v ≤ x z
      have key : ∀ k, k < (l.drop (i + p)).length → (l.drop i).getD k 0 = (l.drop (i + p)).getD k 0 := by
        intro k
        induction k using Nat.strongRecOn with
        | ind k ih =>
          intro hk
          simp only [List.length_drop] at hk
          have he : ∀ j, j < k → (l.drop i).getD j 0 = (l.drop (i + p)).getD j 0 := fun j hj => ih j hj (by simp only [List.length_drop]; omega)
          by_cases c1 : (l.drop i).getD k 0 < (l.drop (i + p)).getD k 0
          · rw [lex_part k he (by simp only [List.length_drop]; omega) (by simp only [List.length_drop]; omega) c1] at hv
            cases hv
          · by_cases c2 : (l.drop (i + p)).getD k 0 < (l.drop i).getD k 0
            · have : lexLt (l.drop i) (l.drop (i - p)) = true := by
                refine lex_part (k + p) (fun j hj => ?_) (by simp only [List.length_drop]; omega) (by simp only [List.length_drop]; omega) ?_
                · rw [getD_drop, getD_drop]
                  by_cases hjp : j < p
                  · have := h (i - p + j) (by omega) (by omega)
                    rw [show i - p + j + p = i + j by omega] at this
                    exact this.symm
                  · have := he (j - p) (by omega)
                    rw [getD_drop, getD_drop] at this
                    rw [show i - p + j = i + (j - p) by omega, this]
                    congr 1
                    omega
                · rw [getD_drop, getD_drop, show i - p + (k + p) = i + k by omega, show i + (k + p) = i + p + k by omega]
                  rw [getD_drop, getD_drop] at c2
                  exact c2
              rw [this] at hd
              cases hd
            · omega
      -- then v is a beginning of x v
      have : lexLt (l.drop i) (l.drop (i - p)) = true := by
        refine lex_prefix (fun j hj => ?_) (by simp only [List.length_drop]; omega)
        simp only [List.length_drop] at hj
        rw [getD_drop, getD_drop]
        by_cases hjp : j < p
        · have := h (i - p + j) (by omega) (by omega)
          rw [show i - p + j + p = i + j by omega] at this
          exact this.symm
        · have := key (j - p) (by simp only [List.length_drop]; omega)
          rw [getD_drop, getD_drop] at this
          rw [show i - p + j = i + (j - p) by omega, this]
          congr 1
          omega
      rw [this] at hd
      cases hd
    · have : lexLt (l.drop i) (l.drop (i - p)) = true := by
        refine lex_prefix (fun j hj => ?_) (by simp only [List.length_drop]; omega)
        simp only [List.length_drop] at hj
        rw [getD_drop, getD_drop]
        have := h (i - p + j) (by omega) (by omega)
        rw [show i - p + j + p = i + j by omega] at this
        exact this.symm
      rw [this] at hd
      cases hd
  · by_cases hpr : l.length ≤ i + p
    · intro j hj
      exact h j (by omega) (by omega)
    · have hv := hi.2 (i + p) (by omega)
      have hv' : lexLt (neg1 (l.drop i)) (neg1 (l.drop (i + p))) = false := by
        have h0 := hi'.2 (i' + p) (by rw [neg1_len]; omega)
        cases hc : lexLt (neg1 (l.drop i)) (neg1 (l.drop (i + p))) with
        | false => rfl
        | true =>
          exfalso
          -- the common part ahead of both
          have lift : ∀ d, d ≤ i - i' → lexLt ((neg1 l).drop (i - d)) ((neg1 l).drop (i - d + p)) = true := by
            intro d
            induction d with
            | zero =>
              intro _
              rw [neg1_drop, neg1_drop] at hc
              exact hc
            | succ d ih =>
              intro hd
              have hdl : i - (d + 1) + p < (neg1 l).length := by rw [neg1_len]; omega
              have hdl' : i - (d + 1) < (neg1 l).length := by rw [neg1_len]; omega
              rw [List.drop_eq_getElem_cons hdl, List.drop_eq_getElem_cons hdl']
              unfold lexLt
              have e := h (i - (d + 1)) (by omega) (by omega)
              have e2 : (neg1 l)[i - (d + 1)] = (neg1 l)[i - (d + 1) + p] := by
                have a1 := @getD_neg l (i - (d + 1))
                have a2 := @getD_neg l (i - (d + 1) + p)
                rw [e, ← a2] at a1
                simpa [List.getD, hdl, hdl'] using a1
              rw [if_pos e2, show i - (d + 1) + 1 = i - d by omega, show i - (d + 1) + p + 1 = i - d + p by omega]
              exact ih (by omega)
          have := lift (i - i') (Nat.le_refl _)
          rw [show i - (i - i') = i' by omega, h0] at this
          cases this
      have key := both_prefix hv hv' (by simp only [List.length_drop]; omega)
      intro j hj
      by_cases hji : j < i
      · exact h j (by omega) (by omega)
      · have := key (j - i) (by simp only [List.length_drop]; omega)
        rw [getD_drop, getD_drop, show i + (j - i) = j by omega, show i + p + (j - i) = j + p by omega] at this
        exact this

theorem lp_neg {l : List Int} {k p : Nat} (h : Lp l k p) : Lp (neg1 l) k p := fun j h1 h2 => by
  rw [neg1_len] at h2
  rw [getD_neg, getD_neg, h j h1 h2]
theorem per_neg {l : List Int} {p : Nat} (h : Per (neg1 l) p) : Per l p := fun j hj => by
  have := h j (by rw [neg1_len]; exact hj)
  rw [getD_neg, getD_neg] at this
  omega
/-- the critical factorization -/
theorem crit {l : List Int} {i i' p : Nat} (hi : Top1 l i) (hi' : Top1 (neg1 l) i') (hp : 0 < p) (h : Lp l (max i i') p) : Per l p := by
  by_cases hle : i' ≤ i
  · rw [Nat.max_eq_left hle] at h
    exact crit_half hi hi' hle hp h
  · rw [Nat.max_eq_right (by omega)] at h
    exact per_neg (crit_half hi' (by rw [neg1_neg1]; exact hi) (by omega) hp (lp_neg h))

theorem per_bd {l : List Int} {p : Nat} (h0 : 0 < p) (hp : p ≤ l.length) : Per l p ↔ Bd l l.length (l.length - p) := by
  constructor
  · intro h
    refine ⟨by omega, fun j hj => ?_⟩
    have := h j (by omega)
    rw [this]
    congr 1
    omega
  · rintro ⟨_, h⟩ j hj
    have := h j (by omega)
    rw [this]
    congr 1
    omega
/-- the shortest repetition around the critical cut tells the border -/
theorem local_border {l : List Int} {i i' p : Nat} (hi : Top1 l i) (hi' : Top1 (neg1 l) i') (h : IsLocal l (max i i') p) : bordN l l.length = l.length - p := by
  obtain ⟨h0, hle, hlp, hmin⟩ := h
  refine bordN_eq ((per_bd h0 hle).mp (crit hi hi' h0 hlp)) fun c hc => ?_
  have hc1 := hc.1
  have hper : Per l (l.length - c) := (per_bd (by omega) (by omega)).mpr (by rw [show l.length - (l.length - c) = c by omega]; exact hc)
  by_cases hlt : l.length - c < p
  · exact absurd (per_lp hper) (hmin _ (by omega) hlt)
  · omega
end Mine

namespace Mine
theorem bd_congr {ns ms : List Int} {m b : Nat} (h : ∀ j, j < m → ns.getD j 0 = ms.getD j 0) (hb : Bd ns m b) : Bd ms m b := by
  refine ⟨hb.1, fun j hj => ?_⟩
  have h1 := hb.1
  rw [← h j (by omega), ← h (m - b + j) (by omega)]
  exact hb.2 j hj
theorem bordN_congr {ns ms : List Int} {m : Nat} (h : ∀ j, j < m → ns.getD j 0 = ms.getD j 0) : bordN ns m = bordN ms m := by
  by_cases h0 : m = 0
  · subst h0; rfl
  · exact bordN_eq (bd_congr (fun j hj => (h j hj).symm) (bordN_bd (by omega))) fun c hc => bordN_max (bd_congr h hc)
theorem bordN_take {ns : List Int} {m : Nat} : bordN (ns.take m) m = bordN ns m := bordN_congr fun j hj => by simp [List.getD, hj]
/-- what the law reckons for the beginning of the length i + 1 -/
theorem due_item {rn : List Int} {i a b p : Nat} (hl : i < rn.length) (ha : Top1 (rn.take (i + 1)) a) (hb : Top1 (neg1 (rn.take (i + 1))) b) (hp : IsLocal (rn.take (i + 1)) (max a b) p) : (1 + (i : Int)) - (p : Int) = (bordN rn (i + 1) : Int) := by
  have hz : (rn.take (i + 1)).length = i + 1 := by simp; omega
  have h1 := local_border ha hb hp
  have h2 := hp.2.1
  rw [hz] at h1 h2
  rw [bordN_take] at h1
  omega
theorem tab_take {rn : List Int} (h : rn.length = n) : tab rn = (List.range n).map fun j => (bordN rn (j + 1) : Int) := by rw [tab, h]
theorem tab_of_take {rn : List Int} {m : Nat} (h : m ≤ rn.length) : tab (rn.take m) = (tab rn).take m := by
  apply List.ext_getElem
  · simp [tab]
  · intro i h1 h2
    simp only [tab, List.length_map, List.length_range, List.length_take] at h1
    simp only [tab, List.getElem_map, List.getElem_range, List.getElem_take]
    have : bordN (rn.take m) (i + 1) = bordN rn (i + 1) := bordN_congr fun j hj => by
      have : j < m := by omega
      simp [List.getD, this]
    rw [this]
/-- the table hangs on which numbers are alike alone -/
theorem tab_alike {ns ms : List Int} (hl : ns.length = ms.length) (h : ∀ i j, i < ns.length → j < ns.length → (ns.getD i 0 = ns.getD j 0 ↔ ms.getD i 0 = ms.getD j 0)) : tab ns = tab ms := by
  have hb : ∀ m, m ≤ ns.length → ∀ b, Bd ns m b ↔ Bd ms m b := fun m hm b => by
    constructor
    · rintro ⟨h1, h2⟩
      exact ⟨h1, fun j hj => (h j (m - b + j) (by omega) (by omega)).mp (h2 j hj)⟩
    · rintro ⟨h1, h2⟩
      exact ⟨h1, fun j hj => (h j (m - b + j) (by omega) (by omega)).mpr (h2 j hj)⟩
  have hm : ∀ m, 0 < m → m ≤ ns.length → bordN ns m = bordN ms m := fun m h0 hm => bordN_eq ((hb m hm _).mpr (bordN_bd h0)) fun c hc => bordN_max ((hb m hm c).mp hc)
  apply List.ext_getElem
  · simp [tab, hl]
  · intro i h1 h2
    simp only [tab, List.length_map, List.length_range] at h1
    simp only [tab, List.getElem_map, List.getElem_range]
    rw [hm (i + 1) (by omega) (by omega)]
theorem tab_ranks {l sn : List Int} (hm : ∀ n ∈ l, n ∈ sn) (G : Nat → Int) (hG : ∀ a b, a < sn.length → b < sn.length → G a = G b → a = b) : tab ((l.map fun n => sn.idxOf n).map G) = tab l := by
  refine tab_alike (by simp) fun i j hi hj => ?_
  simp only [List.length_map] at hi hj
  have hi' : l[i] ∈ sn := hm _ (List.getElem_mem hi)
  have hj' : l[j] ∈ sn := hm _ (List.getElem_mem hj)
  have e1 : ((l.map fun n => sn.idxOf n).map G).getD i 0 = G (sn.idxOf l[i]) := by simp [List.getD, hi]
  have e2 : ((l.map fun n => sn.idxOf n).map G).getD j 0 = G (sn.idxOf l[j]) := by simp [List.getD, hj]
  have e3 : l.getD i 0 = l[i] := by simp [List.getD, hi]
  have e4 : l.getD j 0 = l[j] := by simp [List.getD, hj]
  rw [e1, e2, e3, e4]
  constructor
  · intro h
    have h1 := hG _ _ (List.idxOf_lt_length_iff.mpr hi') (List.idxOf_lt_length_iff.mpr hj') h
    have a1 := List.getElem_idxOf (List.idxOf_lt_length_iff.mpr hi')
    have a2 := List.getElem_idxOf (List.idxOf_lt_length_iff.mpr hj')
    rw [← a1, ← a2]
    simp only [h1]
  · intro h
    rw [h]
end Mine

namespace Mine
open PySem PySem.W PyProof.Rows PySem.Calls
set_option maxRecDepth 100000
/-- a contract of the def at f: called with args over the ledger news it hands back r and lays tl, R r tl -/
def Con (prog : Program) (w : World) (K : Frag) (p : Program) (f : Addr) (dd uu : Nat) (args : List Value) (news : List (Addr × Obj)) (R : Value → List (Addr × Obj) → Prop) : Prop :=
  ∀ (loose : List Str) (mean : ExcName → Option Value) (mg mb : Str → Option Value) (dp un : Nat) (gd : Option (List Code)) (cn : Str) (cs : Scope) (a : Addr) (ccd : Value) (cl : List (Str × Addr)) (outer : List Env) (A₀ : Around) (base h₀ : Heap) (L : Addr) (m : Str → Option Value) (s : Shared)
    (Q E : Value → Shared → Prop),
    Below A₀ base outer h₀ → Fr h₀ L s.heap m → K.In h₀ → News h₀ L s.heap news → Top p loose mean mg mb h₀ → cs.kind = .function → dp + dd < recursionLimit → un + uu < cLine →
    (∀ r tl h' tk', R r tl → Fr h₀ L h' m → News h₀ L h' (tl ++ news) → (∀ q ∈ tl, LCg.Off1 q.1 news) → Q r { s with heap := h', toks := tk' }) →
    wpAny (model prog w) (ktrTop dp un gd cn cs L a ccd cl outer) (call (.ref f) args) Q E s

/-- the end of a called def's body: the result, what it leaves -/
def Ends (g : Heap) (L' : Addr) (sel : List (Addr × Obj)) (R : Value → List (Addr × Obj) → Prop) (s : Shared) (v : Value) (s' : Shared) : Prop :=
  ∃ m' tl h' tk', s' = { s with heap := h', toks := tk' } ∧ Fr g L' h' m' ∧ News g L' h' (tl ++ sel) ∧ (∀ q ∈ tl, LCg.Off1 q.1 sel) ∧ R v tl

theorem off1_of {D : Addr} : ∀ {l : List (Addr × Obj)}, (∀ p ∈ l, p.1 ≠ D) → LCg.Off1 D l
  | [], _ => trivial
  | p :: _, h => ⟨h p (.head _), off1_of fun q hq => h q (.tail _ hq)⟩
theorem off1_mem {D : Addr} : ∀ {l : List (Addr × Obj)}, LCg.Off1 D l → ∀ p ∈ l, p.1 ≠ D
  | [], _, _, h => nomatch h
  | _ :: _, x, p, h => by
    rcases List.mem_cons.mp h with rfl | h
    · exact x.1
    · exact off1_mem x.2 p h
theorem off1_lt {D : Addr} : ∀ {l : List (Addr × Obj)}, AllLt D l → LCg.Off1 D l
  | [], _ => trivial
  | _ :: _, h => ⟨Nat.ne_of_lt h.1, off1_lt h.2⟩

section
variable {prog : Program} {w : World} {K : Frag} {p : Program} {f : Addr} {dd uu : Nat} {news sel : List (Addr × Obj)} {R : Value → List (Addr × Obj) → Prop}
  {name qual : Str} {params : Arguments} {body : List Stmt} {scope : Scope} {dV kV doc pm cdv ct oc : Value} {an od : Option Addr} {osl : Array (Option Value)} {args : List Value} {binds : List (Str × Value)}

theorem enter (hs : ∀ q ∈ sel, q ∈ news)
    (ho : K.lookup f = some ⟨oc, od, .func (fnOf name qual params body scope dV kV doc pm an cdv ct), osl⟩) (hcd : codeIn K cdv qual = true)
    (hbind : ∀ s, BindsTo s (fnOf name qual params body scope dV kV doc pm an cdv ct) ⟨args, []⟩ binds) (hkind : (binds.all fun y => scope.names.lookup y.1 == some .local || scope.names.lookup y.1 == some .cell) = true)
    (hnd : ((cellsFrom 0 scope.names []).map (·.1)).Nodup)
    (h : ∀ (loose : List Str) (mean : ExcName → Option Value) (mg mb : Str → Option Value) (dp un : Nat) (gd : Option (List Code)) (cn : Str) (cs : Scope) (a : Addr) (ccd : Value) (cl : List (Str × Addr)) (outer : List Env) (base g : Heap) (L L' : Addr) (h₁ : Heap) (cells : List (Addr × Obj)) (tk : Nat) (s : Shared) (E : Value → Shared → Prop),
      cs.kind = .function → dp + dd < recursionLimit → un + uu < cLine →
      Fr g L' h₁ (bindL (envOfC qual scope L' f cdv).kindOf binds fun _ => none) → News g L' h₁ (cells ++ sel) → CellsAre (bindC (envOfC qual scope L' f cdv).kindOf binds fun _ => none) (cellsFrom (L' + 1) scope.names []) cells →
      Below (ktrTop dp un gd cn cs L a ccd cl outer) base (envX cn cs L a ccd cl :: outer) g → K.In g → Top p loose mean mg mb g → (∀ p ∈ sel, p.1 < L') →
      wpAny (model prog w) ((ktrTop dp un gd cn cs L a ccd cl outer).deeper (envOfC qual scope L' f cdv)) (execs body (envOfC qual scope L' f cdv)) (fun fl s' => Ends g L' sel R s (match fl with | .ret v => v | _ => .none) s')
        (fun e s' => wpAny (model prog w) ((ktrTop dp un gd cn cs L a ccd cl outer).deeper (envOfC qual scope L' f cdv)) (leaving (envOfC qual scope L' f cdv) e) (fun _ s'' => E e s'') (fun e' s'' => E e' s'') s')
        { s with heap := h₁, toks := tk })
    (hd1 : 1 ≤ dd) (hco : scope.isCoroutine = false) (hgen : scope.isGenerator = false) (hk : scope.kind = .function) :
    Con prog w K p f dd uu args news R := by
  intro loose mean mg mb dp un gd cn cs a ccd cl outer A₀ base h₀ L m s Q E B F X N T hck hdp hun hret
  refine wpAny_call ?_
  have Ns : News h₀ L s.heap sel := fun q hq => N q (hs q hq)
  have Xs := X.keeps F.keep
  obtain ⟨FG, BG, st, -⟩ := groundX (R := fun _ _ => True) (A := ktrTop dp un gd cn cs L a ccd cl outer) (env := envX cn cs L a ccd cl) B F Ns rfl rfl hck
  have hAd : (ktrTop dp un gd cn cs L a ccd cl outer).depth < recursionLimit := by
    show dp < recursionLimit
    omega
  refine codeAny_call_function hAd (Xs _ _ ho) rfl hco hgen rfl (codeRec_of Xs hcd) (hbind _ _ _ _ _ ?_)
  refine wpAny_newFunctionEnv_cells hk (kindsX hkind _) fun env' he s' x => ?_
  subst he
  refine ⟨(T.nolimit.keeps F.keep).keeps x.toInCall.keep, codeAny_func ?_⟩
  obtain ⟨h₁, tk, rfl, _⟩ := x.done
  have hk₁ := x.toInCall.keep
  obtain ⟨cells, NC, Y⟩ := Cl.news (h₀ := s.heap) (Nat.le_refl _) fun n c hm => ⟨x.cell n c (lookup_of_mem_nodup (cellsFrom_names scope.names 0 (s.heap.objs.size + 1) [] [] rfl ▸ hnd) hm), x.above n c hm⟩
  have NG : News (hideAll s.heap (sel.map (·.1))) s.heap.objs.size h₁ (cells ++ sel) := fun p hp => by
    rcases List.mem_append.mp hp with hp | hp
    · refine ⟨(NC p hp).1, (NC p hp).2.1, ?_⟩
      cases q : (hideAll s.heap (sel.map (·.1))).get? p.1 with
      | none => rfl
      | some o => have := of_hideAll _ q; rw [(NC p hp).2.2] at this; cases this
    · exact ⟨hk₁ _ _ (Ns p hp).1, Nat.ne_of_lt (Heap.lt_size (Ns p hp).1), hideAll_none _ (List.mem_map_of_mem hp)⟩
  have FB : Fr (hideAll s.heap (sel.map (·.1))) s.heap.objs.size h₁ _ := ⟨x.toInCall.ns, fun b o e => hk₁ b o (of_hideAll _ e), Nat.le_of_eq (hideAll_size _ _)⟩
  refine wpAny_mono (h loose mean mg mb dp un gd cn cs a ccd cl outer base _ L s.heap.objs.size h₁ cells tk s E hck hdp hun FB NG Y BG (X.keeps st) (T.keeps st) fun p hp => Heap.lt_size (Ns p hp).1) (fun fl s' hl => ?_) fun _ _ y => y
  obtain ⟨m', tl, h', tk', rfl, F', N', O', r⟩ := hl
  obtain ⟨oL, es, ep, hL, hLd, hLk, hLf⟩ := F.ns
  have nL : L ∉ sel.map (·.1) := fun q => by
    obtain ⟨p, hp, e⟩ := List.mem_map.mp q
    exact (Ns p hp).2.1 e
  have hLg := hideAll_get (sel.map (·.1)) hL nL
  have old : ∀ q ∈ news, h'.get? q.1 = some q.2 := fun q hq => by
    by_cases hm : q.1 ∈ sel.map (·.1)
    · obtain ⟨r, hr, e⟩ := List.mem_map.mp hm
      have h1 := (Ns r hr).1
      rw [e, (N q hq).1] at h1
      have h2 := (N' r (List.mem_append_right _ hr)).1
      rw [e, ← Option.some.inj h1] at h2
      exact h2
    · exact F'.keep _ _ (hideAll_get _ (N q hq).1 hm)
  have hQ : ∀ v, R v tl → Q v { s with heap := h', toks := tk' } := by
    intro v r
    refine hret _ tl h' tk' r ⟨⟨oL, es, ep, F'.keep L oL hLg, hLd, hLk, hLf⟩, fun b o e => F'.keep b o (st b o e), F.above⟩ (fun q hq => ?_) fun q hq => off1_of fun p hp => ?_
    · rcases List.mem_append.mp hq with hq | hq
      · refine ⟨(N' q (List.mem_append_left _ hq)).1, fun e => ?_, ?_⟩
        · have := (N' q (List.mem_append_left _ hq)).2.2
          rw [e, hLg] at this; cases this
        · cases e : h₀.get? q.1 with
          | none => rfl
          | some o => have := (N' q (List.mem_append_left _ hq)).2.2; rw [st _ _ e] at this; cases this
      · exact ⟨old q hq, (N q hq).2⟩
    · by_cases hm : p.1 ∈ sel.map (·.1)
      · obtain ⟨r, hr, e⟩ := List.mem_map.mp hm
        rw [← e]
        exact off1_mem (O' q hq) r hr
      · intro e
        have := (N' q (List.mem_append_left _ hq)).2.2
        rw [← e, hideAll_get _ (N p hp).1 hm] at this; cases this
  exact hQ _ r
end
end Mine

namespace Mine
open PySem PySem.W PyProof.Rows PySem.Calls
set_option maxRecDepth 100000

theorem drop_nil {l : List Int} {i : Nat} (h : l.length ≤ i) : l.drop i = [] := List.drop_eq_nil_of_le h
theorem drop_cons {l : List Int} {i : Nat} (h : i < l.length) : l.drop i = l[i] :: l.drop (i + 1) := List.drop_eq_getElem_cons h
theorem ints_item {its : Array Value} {ns : List Int} (hi : IntsAre its.toList ns) {i : Nat} (h : i < ns.length) : ∃ t, its[i]? = some (.int ns[i] t) := by
  obtain ⟨t, e⟩ := hi.get i ns[i] (by simp [h])
  exact ⟨t, by simpa using e⟩
theorem ints_none {its : Array Value} {ns : List Int} (hi : IntsAre its.toList ns) {i : Nat} (h : ns.length ≤ i) : its[i]? = none := by
  have := hi.length
  simp at this ⊢
  omega

theorem gt_loop (l b : Addr) (its its2 : Array Value) (n n2 : Nat) (ns ms : List Int) (h1 : IntsAre its.toList ns) (h2 : IntsAre its2.toList ms) (k : Nat) :
    ∀ i : Nat, ns.length - i = k → i ≤ ns.length → i ≤ ms.length → Meets (Builtin.«list.__eq__.loop» ⟨[.ref l, .ref b, rawInt i, rawInt 4], []⟩)
      (fun _ R s => s.heap.get? l = some { cls := .type "list", dict := none, data := .seq its n, slots := #[] } ∧ s.heap.get? b = some { cls := .type "list", dict := none, data := .seq its2 n2, slots := #[] } ∧
        R (.ok (.ret (.bool (lexLt (ms.drop i) (ns.drop i))))) s) := by
  have z1 : its.size = ns.length := by simpa using h1.length
  have z2 : its2.size = ms.length := by simpa using h2.length
  induction k with
  | zero =>
    intro i hk hle1 hle2 prog w A R s h
    obtain ⟨hp, g, d, tk, os⟩ := s; obtain ⟨hl, hb, h⟩ := h
    wp_walk using AutoSeq1.wpAny_loadPart' hl, AutoSeq1.wpAny_loadPart' hb
    have hi1 : its[((i : Nat) : Int).toNat]? = none := ints_none h1 (by simp; omega)
    rw [drop_nil (l := ns) (by omega)] at h
    rw [hi1]
    wp_walk using AutoSeq1.wpAny_loadPart' hl, AutoSeq1.wpAny_loadPart' hb
    show R (.ok (.ret (.bool (decide (its.size > its2.size))))) _
    have e : lexLt (ms.drop i) [] = decide (its.size > its2.size) := by
      rw [decide_eq_false (by omega)]
      cases ms.drop i <;> rfl
    rw [← e]
    exact h
  | succ k ih =>
    intro i hk hle1 hle2 prog w A R s h
    obtain ⟨hp, g, d, tk, os⟩ := s; obtain ⟨hl, hb, h⟩ := h
    have hlt : i < ns.length := by omega
    obtain ⟨t1, e1⟩ := ints_item h1 hlt
    have hi1 : its[((i : Nat) : Int).toNat]? = some (.int ns[i] t1) := e1
    rw [drop_cons hlt] at h
    wp_walk using AutoSeq1.wpAny_loadPart' hl, AutoSeq1.wpAny_loadPart' hb
    by_cases hlt2 : i < ms.length
    · obtain ⟨t2, e2⟩ := ints_item h2 hlt2
      have hi2 : its2[((i : Nat) : Int).toNat]? = some (.int ms[i] t2) := e2
      have hc : ((i : Int) + 1) = ((i + 1 : Nat) : Int) := rfl
      rw [drop_cons hlt2] at h
      rw [hi1, hi2]
      refine wpAny_bind (MeetsSeq.EqGives.int ns[i] ms[i] t1 t2 prog w _ _ _ _ ?_)
      by_cases he : ns[i] = ms[i]
      · have hbq : (ns[i] == ms[i]) = true := by simpa using he
        rw [hbq]
        rw [lexLt, if_pos he.symm] at h
        wp_walk
        rw [hc]
        exact ⟨plainId_quiet MeetsSeq3.plain_eq_loop _, codeAny_builtin MeetsSeq3.entry_eq_loop (by
          rw [Around.under_plainId MeetsSeq3.plain_eq_loop _]
          exact ih (i + 1) (by omega) (by omega) (by omega) prog w A R _ ⟨hl, hb, h⟩)⟩
      · have hbq : (ns[i] == ms[i]) = false := by simpa using he
        rw [hbq]
        rw [lexLt, if_neg fun q => he q.symm] at h
        wp_walk using AutoSeq1.wpAny_loadPart' hl, AutoSeq1.wpAny_loadPart' hb
        rw [hi1, hi2]
        dsimp only
        refine wpAny_bind (CmpOf.ints_gt (prog := prog) (w := w) (P := fun j v => ∃ t, v = .int ([ns[i], ms[i]].getD j 0) t) (fun j => [ns[i], ms[i]].getD j 0) (fun _ _ hh => hh) 0 1 _ _ _ _ _ ⟨t1, rfl⟩ ⟨t2, rfl⟩ ?_)
        wp_walk
        exact h
    · have hi2 : its2[((i : Nat) : Int).toNat]? = none := ints_none h2 (by simp; omega)
      rw [drop_nil (l := ms) (by omega)] at h
      rw [hi1, hi2]
      wp_walk using AutoSeq1.wpAny_loadPart' hl, AutoSeq1.wpAny_loadPart' hb
      show R (.ok (.ret (.bool (decide (its.size > its2.size))))) _
      rw [decide_eq_true (by omega)]
      exact h

theorem list_gt (l b : Addr) (its its2 : Array Value) (n n2 : Nat) (ns ms : List Int) (h1 : IntsAre its.toList ns) (h2 : IntsAre its2.toList ms) :
    Meets (Builtin.«list.__gt__» ⟨[.ref l, .ref b], []⟩)
      (fun _ R s => s.heap.get? l = some { cls := .type "list", dict := none, data := .seq its n, slots := #[] } ∧ s.heap.get? b = some { cls := .type "list", dict := none, data := .seq its2 n2, slots := #[] } ∧
        R (.ok (.ret (.bool (lexLt ms ns)))) s) := by
  intro prog w A R s h
  obtain ⟨hp, g, d, tk, os⟩ := s; obtain ⟨hl, hb, h⟩ := h
  have f3 := AutoSeq1.sub_list_list
  wp_walk using AutoSeq1.wpAny_loadPart' hl, AutoSeq1.wpAny_loadPart' hb
  exact ⟨plainId_quiet MeetsSeq3.plain_eq_loop _, codeAny_builtin MeetsSeq3.entry_eq_loop (by
    rw [Around.under_plainId MeetsSeq3.plain_eq_loop _]
    exact gt_loop l b its its2 n n2 ns ms h1 h2 _ 0 rfl (Nat.zero_le _) (Nat.zero_le _) prog w A R _ ⟨hl, hb, by simpa using h⟩)⟩

theorem rich_gt_lists {prog : Program} {w : World} {A : Around} {E : Value → Shared → Prop} {s : Shared} {l b : Addr} {vs ws : List Value} {n n2 : Nat} {ns ms : List Int} {Q : Value → Shared → Prop}
    (hl : s.heap.get? l = some (listOf vs.toArray n)) (hb : s.heap.get? b = some (listOf ws.toArray n2)) (h1 : IntsAre vs ns) (h2 : IntsAre ws ms) (hu : A.units < cLine) (h : Q (.bool (lexLt ms ns)) s) :
    wpAny (model prog w) A (richCompare .Gt (.ref l) (.ref b)) Q E s :=
  richCompare_meets_room (T := "list") ⟨_, hl, rfl⟩ ⟨_, hb, rfl⟩ F.slot_list_gt F.entry_list_gt (F.args_list_gt_2 _ _) (list_gt l b vs.toArray ws.toArray n n2 ns ms (by simpa using h1) (by simpa using h2)) ⟨hl, hb, by simpa [wants] using h⟩ hu
end Mine

namespace Mine
open PySem PySem.W PyProof.Rows PySem.Calls
set_option maxRecDepth 100000

/-- the order of the items, where the ledger stands -/
def CmpOn (prog : Program) (w : World) (A : Around) (news : List (Addr × Obj)) (P : Nat → Value → Prop) (bt : Nat → Nat → Bool) : Prop :=
  ∀ i j vi vj (s : Shared) (Q : Value → Shared → Prop) (E : Value → Shared → Prop), (∀ p ∈ news, s.heap.get? p.1 = some p.2) → P i vi → P j vj → Q (.bool (bt i j)) s → wpAny (model prog w) A (richCompare .Gt vi vj) Q E s

section
variable {prog : Program} {w : World} {A : Around} {R : Result → Shared → Prop} {I : Addr} {fp wr : List Addr} {n : Nat} {P : Nat → Value → Prop} {St : Nat → Heap → Prop} {news : List (Addr × Obj)}

theorem max_turns (W : Walks prog w A.in1 I fp wr n P St) (bt : Nat → Nat → Bool) (hcmp : CmpOn prog w A.in1 news P bt) (S : Addr) (hSf : S ∉ fp) (hnw : ∀ p ∈ news, p.1 ∉ wr) (hnS : ∀ p ∈ news, p.1 ≠ S) :
    ∀ (k j : Nat) (s : Shared) (vb : Value) (c : Nat), n - (j + 1) = k → j + 1 ≤ n → St (j + 1) s.heap → P (argBest bt j) vb → (∀ p ∈ news, s.heap.get? p.1 = some p.2) →
    s.heap.get? S = some { cls := .type "list", dict := none, data := .seq #[vb, vb] c, slots := #[] } →
    (∀ v h' tk, P (argBest bt (n - 1)) v → (∀ b o, b ∉ wr → b ≠ S → s.heap.get? b = some o → h'.get? b = some o) → R (.ok (.ret v)) { s with heap := h', toks := tk }) →
    codeAny (model prog w) A (.builtin "max.loop" ⟨[.ref I, .none, .ref S], []⟩) R s := by
  have hSw : S ∉ wr := fun h => hSf (W.sub _ h)
  have hname : (toString "max" ++ toString ".loop" : String) = "max.loop" := by decide
  intro k
  induction k with
  | zero =>
    intro j s vb c hk hj hst hPb hN hS hR
    have hin : j + 1 = n := by omega
    refine codeAny_builtin F.entry_max_loop ?_
    rw [Around.under_plainId F.plain_max_loop _]
    show wpAny _ A.in1 (seqItems? (.ref S) >>= _) _ _ s
    refine wpAny_bind (wpAny_seqItems hS rfl ?_)
    show wpAny _ A.in1 (tryCatch (pyNext (.ref I)) _ >>= _) _ _ s
    refine wpAny_bind (wpAny_tryCatch (W.done s _ _ (hin ▸ hst) fun h' tk hk' => ?_))
    have hS' := hk' S _ hSw hS
    show wpAny _ A.in1 (updateSeq S (fun _ => #[]) >>= _) _ _ _
    refine wpAny_bind ?_
    refine wpAny_updateSeq hS' rfl (wpAny_bind (wpAny_letGo (wpAny_pure ?_)))
    exact hR vb _ tk (by rw [← hin]; exact hPb) fun b o hbw hbS e => (Heap.get?_update_other _ _ (Ne.symm hbS)).trans (hk' b o hbw e)
  | succ k ih =>
    intro j s vb c hk hj hst hPb hN hS hR
    have hlt : j + 1 < n := by omega
    refine codeAny_builtin F.entry_max_loop ?_
    rw [Around.under_plainId F.plain_max_loop _]
    show wpAny _ A.in1 (seqItems? (.ref S) >>= _) _ _ s
    refine wpAny_bind (wpAny_seqItems hS rfl ?_)
    show wpAny _ A.in1 (tryCatch (pyNext (.ref I)) _ >>= _) _ _ s
    refine wpAny_bind (wpAny_tryCatch (W.item (j + 1) s _ _ hlt hst fun v h' tk hP hst' hk' => ?_))
    have hS' := hk' S _ hSw hS
    have hN' : ∀ p ∈ news, h'.get? p.1 = some p.2 := fun p hp => hk' _ _ (hnw p hp) (hN p hp)
    show wpAny _ A.in1 (tryCatch (holding [v, v] (richCompare .Gt v vb >>= _)) _ >>= _) _ _ _
    refine wpAny_bind (wpAny_tryCatch (wpAny_holding (wpAny_bind (hcmp (j + 1) (argBest bt j) v vb _ _ _ hN' hP hPb ?_))))
    refine wpAny_bind (wpAny_holding (wpAny_truthy_bool ?_))
    refine wpAny_bind (wpAny_letGo (wpAny_pure ?_))
    cases hb : bt (j + 1) (argBest bt j) with
    | true =>
      simp only [if_true]
      refine wpAny_bind ?_
      refine wpAny_updateSeq hS' rfl (wpAny_bind (wpAny_letGo ?_))
      rw [hname]
      refine wpAny_pure ⟨plainId_quiet F.plain_max_loop _, ih (j + 1) _ v _ (by omega) hlt (W.frame _ _ _ hst' fun b hbf o e => ?_) (by simp only [argBest, hb, if_true]; exact hP) (fun p hp => ?_) (Heap.get?_update_self _ hS' rfl)
        fun v' h'' tk'' hP' hk'' => ?_⟩
      · exact (Heap.get?_update_other _ _ (fun h : S = b => hSf (by rw [h]; exact hbf))).trans e
      · exact (Heap.get?_update_other _ _ (Ne.symm (hnS p hp))).trans (hN' p hp)
      · exact hR v' h'' tk'' hP' fun b o hbw hbS e => hk'' b o hbw hbS ((Heap.get?_update_other _ _ (Ne.symm hbS)).trans (hk' b o hbw e))
    | false =>
      simp only [Bool.false_eq_true, if_false]
      refine wpAny_bind (wpAny_letGo ?_)
      rw [hname]
      refine wpAny_pure ⟨plainId_quiet F.plain_max_loop _, ih (j + 1) _ vb c (by omega) hlt hst' (by simp only [argBest, hb, Bool.false_eq_true, if_false]; exact hPb) hN' hS' fun v' h'' tk'' hP' hk'' => ?_⟩
      exact hR v' h'' tk'' hP' fun b o hbw hbS e => hk'' b o hbw hbS (hk' b o hbw e)

theorem max_first (W : Walks prog w A.in1 I fp wr n P St) (bt : Nat → Nat → Bool) (hcmp : CmpOn prog w A.in1 news P bt) (S : Addr) (hSf : S ∉ fp) (hnw : ∀ p ∈ news, p.1 ∉ wr) (hnS : ∀ p ∈ news, p.1 ≠ S) (hn : 0 < n) {s : Shared} {c : Nat} (hst : St 0 s.heap)
    (hN : ∀ p ∈ news, s.heap.get? p.1 = some p.2) (hS : s.heap.get? S = some { cls := .type "list", dict := none, data := .seq #[] c, slots := #[] })
    (hR : ∀ v h' tk, P (argBest bt (n - 1)) v → (∀ b o, b ∉ wr → b ≠ S → s.heap.get? b = some o → h'.get? b = some o) → R (.ok (.ret v)) { s with heap := h', toks := tk }) :
    codeAny (model prog w) A (.builtin "max.loop" ⟨[.ref I, .none, .ref S], []⟩) R s := by
  have hSw : S ∉ wr := fun h => hSf (W.sub _ h)
  have hname : (toString "max" ++ toString ".loop" : String) = "max.loop" := by decide
  refine codeAny_builtin F.entry_max_loop ?_
  rw [Around.under_plainId F.plain_max_loop _]
  show wpAny _ A.in1 (seqItems? (.ref S) >>= _) _ _ s
  refine wpAny_bind (wpAny_seqItems hS rfl ?_)
  show wpAny _ A.in1 (tryCatch (pyNext (.ref I)) _ >>= _) _ _ s
  refine wpAny_bind (wpAny_tryCatch (W.item 0 s _ _ hn hst fun v h' tk hP hst' hk' => ?_))
  have hS' := hk' S _ hSw hS
  have hN' : ∀ p ∈ news, h'.get? p.1 = some p.2 := fun p hp => hk' _ _ (hnw p hp) (hN p hp)
  show wpAny _ A.in1 (updateSeq S (fun _ => #[v, v]) >>= _) _ _ _
  refine wpAny_bind ?_
  refine wpAny_updateSeq hS' rfl ?_
  rw [hname]
  refine wpAny_pure ⟨plainId_quiet F.plain_max_loop _, max_turns W bt hcmp S hSf hnw hnS _ 0 _ v _ rfl hn (W.frame _ _ _ hst' fun b hbf o e => ?_) hP (fun p hp => (Heap.get?_update_other _ _ (Ne.symm (hnS p hp))).trans (hN' p hp)) (Heap.get?_update_self _ hS' rfl) fun v' h'' tk'' hP' hk'' => ?_⟩
  · exact (Heap.get?_update_other _ _ (fun h : S = b => hSf (by rw [h]; exact hbf))).trans e
  · exact hR v' h'' tk'' hP' fun b o hbw hbS e => hk'' b o hbw hbS ((Heap.get?_update_other _ _ (Ne.symm hbS)).trans (hk' b o hbw e))
end

section
variable {prog : Program} {w : World} {A : Around} {E : Value → Shared → Prop} {s : Shared} {h₀ : Heap} {L l : Addr} {m : Str → Option Value} {news : List (Addr × Obj)} {ys : List Value} {n : Nat} {Q : Value → Shared → Prop}

/-- max of a list, its items compared where the ledger stands -/
theorem max_list_on (bt : Nat → Nat → Bool) (hh : A.handled = none) (F : Fr h₀ L s.heap m) (N : News h₀ L s.heap news) (hm : (l, listOf ys.toArray n) ∈ news) (hne : 0 < ys.length)
    (hcmp : CmpOn prog w A.in1 news (fun i v => ys[i]? = some v) bt)
    (h : ∀ v h' tk, ys[argBest bt (ys.length - 1)]? = some v → Fr h₀ L h' m → News h₀ L h' news → Q v { s with heap := h', toks := tk }) :
    wpAny (model prog w) A (call (.builtin "max") [.ref l]) Q E s := by
  have hl : s.heap.IsList l ys.toArray := ⟨_, (N _ hm).1, rfl, _, rfl⟩
  have hlt : l < s.heap.objs.size := Heap.lt_size (N _ hm).1
  have hne' : l ≠ s.heap.objs.size := Nat.ne_of_lt hlt
  have hname : (toString "max" ++ toString ".loop" : String) = "max.loop" := by decide
  refine call_function_tree PySem.F.kind_max PySem.F.plain_max PySem.F.entry_max (PySem.F.args_max1 _) ?_
  show wpAny _ A.in1 (Builtin.Builtins.bindParams "max" ["key", "default"] 0 ⟨[], []⟩ >>= _) _ _ s
  refine wpAny_bind (wpAny_of_eq (show Builtin.Builtins.bindParams "max" ["key", "default"] 0 ⟨[], []⟩ = pure [none, none] from rfl) ?_)
  refine wpAny_bind (wpAny_pure ?_)
  refine wpAny_bind (wpAny_pyIter_list hl ?_)
  refine wpAny_bind (wpAny_newObj_type ?_)
  have W := Walks.list (prog := prog) (w := w) (A := A.in1) hh s.heap.objs.size l hne' ys.toArray
  have hsz : ys.toArray.size = ys.length := List.size_toArray ..
  rw [hsz] at W
  rw [hname]
  have up : ∀ b o, s.heap.get? b = some o → (s.heap.push { cls := .type "list_iterator", data := .fields #[.ref l, .int 0 0] }).get? b = some o := fun b o e => Heap.get?_push_of_some _ e
  have hnew : h₀.get? s.heap.objs.size = none := by
    cases e : h₀.get? s.heap.objs.size with
    | none => rfl
    | some o' => exact absurd (Heap.lt_size (F.keep _ _ e)) (Nat.lt_irrefl _)
  refine wpAny_pure ⟨plainId_quiet PySem.F.plain_max_loop _, max_first W bt (fun i j vi vj s' Q' E' hN hi hj hq => hcmp i j vi vj s' Q' E' hN (by simpa using hi) (by simpa using hj) hq) (s.heap.push { cls := .type "list_iterator", data := .fields #[.ref l, .int 0 0] }).objs.size ?_ ?_ ?_ hne ?_ ?_ (Heap.get?_push_size _ rfl) fun v h' tk hP hk => ?_⟩
  · intro hm'
    rw [Heap.size_push] at hm'
    rcases List.mem_cons.mp hm' with e | hm'
    · exact Nat.ne_of_gt (Nat.lt_succ_self _) e
    · exact Nat.ne_of_gt (Nat.lt_succ_of_lt hlt) (List.mem_singleton.mp hm')
  · intro p hp hq
    exact absurd (Heap.lt_size (N p hp).1) ((List.mem_singleton.mp hq) ▸ Nat.lt_irrefl _)
  · intro p hp
    rw [Heap.size_push]
    exact Nat.ne_of_lt (Nat.lt_succ_of_lt (Heap.lt_size (N p hp).1))
  · exact ⟨⟨_, Heap.get?_push_of_some _ (Heap.get?_push_size _ rfl), rfl, rfl⟩, (hl.push _).push _⟩
  · intro p hp
    exact Heap.get?_push_of_some _ (up _ _ (N p hp).1)
  · have keep : ∀ b o, s.heap.get? b = some o → h'.get? b = some o := fun b o e => by
      refine hk b o (fun q => ?_) ?_ (Heap.get?_push_of_some _ (up _ _ e))
      · exact absurd (Heap.lt_size e) ((List.mem_singleton.mp q) ▸ Nat.lt_irrefl _)
      · rw [Heap.size_push]
        exact Nat.ne_of_lt (Nat.lt_succ_of_lt (Heap.lt_size e))
    exact h v h' tk (by simpa using hP) (F.keeps keep) (N.grown keep)
end

theorem best_spec (R : Nat → List Int) : ∀ k, argBest (fun i j => lexLt (R j) (R i)) k ≤ k ∧ ∀ j, j ≤ k → lexLt (R (argBest (fun i j => lexLt (R j) (R i)) k)) (R j) = false
  | 0 => ⟨Nat.le_refl _, fun j hj => by
    have e : j = 0 := by omega
    subst e
    exact lex_irrefl _⟩
  | k + 1 => by
    have ih := best_spec R k
    unfold argBest
    cases hb : lexLt (R (argBest (fun i j => lexLt (R j) (R i)) k)) (R (k + 1)) with
    | true =>
      simp only [if_true]
      refine ⟨Nat.le_refl _, fun j hj => ?_⟩
      by_cases e : j = k + 1
      · subst e; exact lex_irrefl _
      · cases hc : lexLt (R (k + 1)) (R j) with
        | false => rfl
        | true =>
          have := lex_trans hb hc
          rw [ih.2 j (by omega)] at this
          cases this
    | false =>
      simp only [Bool.false_eq_true, if_false]
      refine ⟨by omega, fun j hj => ?_⟩
      by_cases e : j = k + 1
      · subst e; exact hb
      · exact ih.2 j (by omega)

/-- the best of the ends of a row, each told by G -/
theorem best_ends {n : Nat} (h0 : 0 < n) (G : Nat → List Int) : ∃ i, i < n ∧ (∀ j, j < n → lexLt (G i) (G j) = false) ∧
    ((List.range n).map G).getD (argBest (fun i j => lexLt (((List.range n).map G).getD j []) (((List.range n).map G).getD i [])) (((List.range n).map G).length - 1)) [] = G i := by
  have hg : ∀ j, j < n → ((List.range n).map G).getD j [] = G j := fun j hj => by simp [List.getD, hj]
  have hs := best_spec (fun j => ((List.range n).map G).getD j []) (n - 1)
  rw [List.length_map, List.length_range]
  refine ⟨_, by omega, fun j hj => ?_, hg _ (by omega)⟩
  have := hs.2 j (by omega)
  rw [hg _ (by omega), hg j hj] at this
  exact this

/-- rows of ints, each a list of the ledger -/
def RowsAt (news : List (Addr × Obj)) : List Value → List (List Int) → Prop
  | [], [] => True
  | y :: ys, r :: rs => (∃ a vs c, y = .ref a ∧ (a, listOf vs.toArray c) ∈ news ∧ IntsAre vs r) ∧ RowsAt news ys rs
  | _, _ => False
theorem RowsAt.length {news : List (Addr × Obj)} : ∀ {ys : List Value} {rs : List (List Int)}, RowsAt news ys rs → ys.length = rs.length
  | [], [], _ => rfl
  | _ :: _, _ :: _, h => congrArg Nat.succ (RowsAt.length h.2)
theorem RowsAt.mono {news news' : List (Addr × Obj)} (hs : ∀ p ∈ news, p ∈ news') : ∀ {ys : List Value} {rs : List (List Int)}, RowsAt news ys rs → RowsAt news' ys rs
  | [], [], _ => trivial
  | _ :: _, _ :: _, ⟨⟨a, vs, c, e, hm, hi⟩, r⟩ => ⟨⟨a, vs, c, e, hs _ hm, hi⟩, RowsAt.mono hs r⟩
theorem RowsAt.snoc {news : List (Addr × Obj)} {y : Value} {r : List Int} (hy : ∃ a vs c, y = .ref a ∧ (a, listOf vs.toArray c) ∈ news ∧ IntsAre vs r) : ∀ {ys : List Value} {rs : List (List Int)}, RowsAt news ys rs → RowsAt news (ys ++ [y]) (rs ++ [r])
  | [], [], _ => ⟨hy, trivial⟩
  | _ :: _, _ :: _, h => ⟨h.1, RowsAt.snoc hy h.2⟩
theorem RowsAt.at {news : List (Addr × Obj)} : ∀ {ys : List Value} {rs : List (List Int)}, RowsAt news ys rs → ∀ {i : Nat} {v : Value}, ys[i]? = some v → ∃ a vs c, v = .ref a ∧ (a, listOf vs.toArray c) ∈ news ∧ IntsAre vs (rs.getD i [])
  | _ :: _, _ :: _, h, 0, v, e => by
    have e' : _ = v := Option.some.inj e
    subst e'
    exact h.1
  | _ :: _, _ :: _, h, i + 1, v, e => RowsAt.at h.2 e
  | [], [], _, _, _, e => nomatch e

theorem max_rows {prog : Program} {w : World} {A : Around} {E : Value → Shared → Prop} {s : Shared} {h₀ : Heap} {L l : Addr} {m : Str → Option Value} {news : List (Addr × Obj)} {ys : List Value} {n : Nat} {rs : List (List Int)} {Q : Value → Shared → Prop}
    (hh : A.handled = none) (hu : A.units + 1 < cLine) (F : Fr h₀ L s.heap m) (N : News h₀ L s.heap news) (hm : (l, listOf ys.toArray n) ∈ news) (hr : RowsAt news ys rs) (hne : 0 < rs.length)
    (h : ∀ a vs c h' tk, (a, listOf vs.toArray c) ∈ news → IntsAre vs (rs.getD (argBest (fun i j => lexLt (rs.getD j []) (rs.getD i [])) (rs.length - 1)) []) → Fr h₀ L h' m → News h₀ L h' news → Q (.ref a) { s with heap := h', toks := tk }) :
    wpAny (model prog w) A (call (.builtin "max") [.ref l]) Q E s := by
  have hlen := hr.length
  refine max_list_on (fun i j => lexLt (rs.getD j []) (rs.getD i [])) hh F N hm (by omega) ?_ ?_
  · intro i j vi vj s' Q' E' hN hi hj hq
    obtain ⟨a, vs, c, rfl, ha, ia⟩ := hr.at hi
    obtain ⟨b, ws, d, rfl, hb, ib⟩ := hr.at hj
    exact rich_gt_lists (hN _ ha) (hN _ hb) ia ib hu hq
  · intro v h' tk hv F' N'
    rw [hlen] at hv
    obtain ⟨a, vs, c, rfl, ha, ia⟩ := hr.at hv
    exact h a vs c h' tk ha ia F' N'
end Mine

namespace Mine
open PySem PySem.W PyProof.Rows PySem.Calls
set_option maxRecDepth 100000
open PyProof.Rows.LCg

/-- a comprehension's turns by what is kept -/
theorem comp_inv {prog : Program} {w : World} {A : Around} {h₀ : Heap} {L : Addr} {m : Str → Option Value} {env : Env} {elt : PySem.Expr} {x : Str} {scope : Scope} {cl : List (Str × Addr)} {s : Shared} {S : List (Addr × Obj) → Prop} {P : Nat → Value → Prop} {Fin : List Value → List (Addr × Obj) → Prop}
    (J : Nat → List Value → List (Addr × Obj) → Prop) (n : Nat)
    (turn : ∀ i ys news v I oI C oC D m₂ h tk (E' : Value → Shared → Prop), i < n → J i ys news → P i v → NsObj oC m₂ → m₂ x = some v → Fr h₀ L h m → News h₀ L h ((I, oI) :: (C, oC) :: (D, lst ys) :: news) → Off3 I C D news → ((@Ne Nat I C) ∧ (@Ne Nat I D) ∧ (@Ne Nat C D)) →
      wpAny (model prog w) A (eval elt (compEnvC scope cl C env)) (CompEnd h₀ L m { s with heap := h, toks := tk } I oI C oC D (lst ys) S (fun y news' => J (i + 1) (ys ++ [y]) news')) E' { s with heap := h, toks := tk })
    (done : ∀ ys news, J n ys news → Fin ys news) :
    ∀ k i ys news, k + i = n → J i ys news → CompRest prog w A h₀ L m env elt x scope cl s S P Fin k i ys news
  | 0, i, ys, news, e, hj => by
    have e' : i = n := by omega
    subst e'
    exact done ys news hj
  | k + 1, i, ys, news, e, hj => by
    intro v I oI C oC D m₂ h tk E' hP hC hx F N off ne
    refine wpAny_mono (turn i ys news v I oI C oC D m₂ h tk E' (by omega) hj hP hC hx F N off ne) (fun y s' hy => ?_) fun _ _ z => z
    obtain ⟨h', tk', news', rfl, F', N', off', hS, hr⟩ := hy
    exact ⟨h', tk', news', rfl, F', N', off', hS, comp_inv J n turn done k (i + 1) (ys ++ [y]) news' (by omega) hr⟩
/-- a comprehension's turn ends with one new object -/
theorem comp_end_one {h₀ : Heap} {L I C D D' : Addr} {m : Str → Option Value} {s₁ : Shared} {oI oC oD o : Obj} {S : List (Addr × Obj) → Prop} {rest : Value → List (Addr × Obj) → Prop} {y : Value} {h' : Heap} {tk : Nat} {all nx : List (Addr × Obj)}
    (F : Fr h₀ L h' m) (N : News h₀ L h' ((D', o) :: all)) (hne : ∀ p ∈ all, p.1 ≠ D') (sub : ∀ p ∈ (I, oI) :: (C, oC) :: (D, oD) :: nx, p ∈ all) (off : Off3 I C D nx) (hS : S ((D', o) :: nx)) (r : rest y ((D', o) :: nx)) :
    CompEnd h₀ L m s₁ I oI C oC D oD S rest y { s₁ with heap := h', toks := tk } :=
  CompEnd.intro F N ((D', o) :: nx) (fun p hp => by
    simp only [List.mem_cons] at hp
    rcases hp with h | h | h | h | h
    · exact .tail _ (sub p (by rw [h]; exact .head _))
    · exact .tail _ (sub p (by rw [h]; exact .tail _ (.head _)))
    · exact .tail _ (sub p (by rw [h]; exact .tail _ (.tail _ (.head _))))
    · rw [h]; exact .head _
    · exact .tail _ (sub p (.tail _ (.tail _ (.tail _ h))))) ⟨⟨(hne _ (sub _ (.head _))).symm, (hne _ (sub _ (.tail _ (.head _)))).symm, (hne _ (sub _ (.tail _ (.tail _ (.head _))))).symm⟩, off⟩ hS r
/-- a comprehension's turn ends with no new object -/
theorem comp_end_none {h₀ : Heap} {L I C D : Addr} {m : Str → Option Value} {s₁ : Shared} {oI oC oD : Obj} {S : List (Addr × Obj) → Prop} {rest : Value → List (Addr × Obj) → Prop} {y : Value} {h' : Heap} {tk : Nat} {all nx : List (Addr × Obj)}
    (F : Fr h₀ L h' m) (N : News h₀ L h' all) (sub : ∀ p ∈ (I, oI) :: (C, oC) :: (D, oD) :: nx, p ∈ all) (off : Off3 I C D nx) (hS : S nx) (r : rest y nx) :
    CompEnd h₀ L m s₁ I oI C oC D oD S rest y { s₁ with heap := h', toks := tk } := CompEnd.intro F N nx sub off hS r
theorem sub_mid {a b c : Addr × Obj} {pre nx : List (Addr × Obj)} : ∀ p ∈ a :: b :: c :: nx, p ∈ a :: b :: c :: (pre ++ nx) := fun p hp => by
  simp only [List.mem_cons, List.mem_append] at hp ⊢
  rcases hp with h | h | h | h
  · exact .inl h
  · exact .inr (.inl h)
  · exact .inr (.inr (.inl h))
  · exact .inr (.inr (.inr (.inr h)))
theorem allLt_all {d : Addr} : ∀ {l : List (Addr × Obj)}, AllLt d l → ∀ p ∈ l, p.1 ≠ d
  | [], _, _, h => nomatch h
  | _ :: _, x, p, h => by
    rcases List.mem_cons.mp h with rfl | h
    · exact Nat.ne_of_lt x.1
    · exact allLt_all x.2 p h
theorem slice3_ints {prog : Program} {w : World} {A : Around} {E : Value → Shared → Prop} {s : Shared} {h₀ : Heap} {L l : Addr} {m : Str → Option Value} {news : List (Addr × Obj)} {value slice : PySem.Expr} {vs : List Value} {ns : List Int} {vl vu vk : Value} {lo hi st : Option Int} {ops : List Value} {Q : Value → Shared → Prop}
    (F : Fr h₀ L s.heap m) (N : News h₀ L s.heap news) (hl : s.heap.IsList l vs.toArray) (hi' : IntsAre vs ns) (hz : vs.toArray.size ≤ sizeLine) (pl : IsPart vl lo) (pu : IsPart vu hi) (pk : IsPart vk st) (h0 : st ≠ some 0)
    (h : ∀ D ws h', Fr h₀ L h' m → News h₀ L h' ((D, listOf (List.toArray ws) 0) :: news) → (∀ p ∈ news, p.1 < D) → IntsAre ws (pickNums ns lo hi st) → (pickNums ns lo hi st).length ≤ ns.length → Q (.ref D) { s with heap := h' })
    (hs : subscripted slice false (.ref l) (.ref s.heap.objs.size) = operate ops (getItem (.ref l) (.ref s.heap.objs.size))) (ht : ∀ r, letTemporaryGo value (.ref l) r = pure ()) :
    wpAny (model prog w) A (subscriptTail value slice (.ref l) (.ref s.heap.objs.size)) Q E { s with heap := s.heap.push { cls := .type "slice", data := .fields #[vl, vu, vk] } } :=
  slice_list3 F N hl pl pu pk h0 (fun h' F' N' => h _ (slicePick vs.toArray lo hi st).toList h' F' (by rw [Array.toArray_toList]; exact N') (fun p hp => Nat.lt_succ_of_lt (Heap.lt_size (N p hp).1)) (hi'.pick lo hi st) (length_pickNums_le hi' lo hi st)) hs ht hz
theorem news_mid {h₀ h : Heap} {L : Addr} {a b c : Addr × Obj} {pre nx : List (Addr × Obj)} (N : News h₀ L h (a :: b :: c :: nx)) (hs : ∀ p ∈ pre, p ∈ nx) : News h₀ L h (a :: b :: c :: (pre ++ nx)) := fun p hp => by
  refine N p ?_
  simp only [List.mem_cons, List.mem_append] at hp ⊢
  rcases hp with h | h | h | h | h
  · exact .inl h
  · exact .inr (.inl h)
  · exact .inr (.inr (.inl h))
  · exact .inr (.inr (.inr (hs p h)))
  · exact .inr (.inr (.inr h))
end Mine

namespace Mine
open PySem PySem.W PyProof.Rows PySem.Calls
set_option maxRecDepth 100000
/-- a mark: the walk is to stop at comprehensions -/
inductive StopC : Prop where
  | mk
theorem stopC : StopC := .mk
theorem join_ones_cps (l : List Nat) : (PySem.Txt.join (PySem.Str.ofString "") (l.map fun k => (⟨#[k]⟩ : PySem.Str))) = ⟨l.toArray⟩ := by
  have h := PyProof.Rows.join_ones l
  have h2 := PyProof.Rows.join_closes (sep := PySem.Str.ofString "") (sep' := ⟨#[]⟩) (ys := l.map fun k => (⟨#[k]⟩ : PySem.Str)) (by decide)
  rw [eq_of_beq h2]
  exact h
theorem news_drop3 {h₀ h : Heap} {L : Addr} {a b c d : Addr × Obj} {r : List (Addr × Obj)} (N : News h₀ L h (a :: b :: c :: d :: r)) : News h₀ L h (a :: b :: c :: r) := fun p hp => N p (by
  simp only [List.mem_cons] at hp ⊢
  rcases hp with h | h | h | h
  · exact .inl h
  · exact .inr (.inl h)
  · exact .inr (.inr (.inl h))
  · exact .inr (.inr (.inr (.inr h))))
section
variable {prog : Program} {w : World} {A : Around} {E : Value → Shared → Prop} {s : Shared}
theorem index_small {l : Addr} {vs : List Value} {n : Nat} {ns : List Int} {k : Int} {t : Tok} {Q : Value → Shared → Prop} (hl : s.heap.get? l = some (listOf vs.toArray n)) (hi : IntsAre vs ns)
    (hz : ns.length ≤ 12) (hk : k ∈ ns) (h : Q (.int (ns.idxOf k : Nat) s.toks) { s with toks := s.toks + 1 }) :
    wpAny (model prog w) A (call (.builtin "list.index") [.ref l, .int k t]) Q E s := by
  have hlen := hi.length
  have hj : ns.idxOf k < ns.length := List.idxOf_lt_length_iff.mpr hk
  refine call_meets PySem.F.slot_list_index ⟨_, hl, rfl⟩ PySem.F.entry_list_index (PySem.F.args_list_index_2 _ _)
    (MeetsSeq.list_index l vs.toArray n (.int k t) (isInt k) (fun y hy => eq_isInt k t hi y (by simpa using hy)) (ns.idxOf k) (by simpa [hlen] using hj) (by omega) ?_ ?_) ⟨hl, h⟩
  · show isInt k vs[ns.idxOf k] = true
    rw [isInt_at k hi _ (by omega) hj]
    simpa using List.getElem_idxOf hj
  · intro j hjs hlt
    show isInt k vs[j] = false
    rw [isInt_at k hi j (by simpa using hjs) (by omega)]
    exact ne_of_lt_idxOf hlt _
end
end Mine

namespace Mine
open PySem PySem.W PyProof.Rows PySem.Calls
set_option maxRecDepth 100000
/-- the end of the law's body -/
def LawEnd (s : Shared) (L' : Addr) (v : Value) (s' : Shared) : Prop :=
  v = .bool true ∧ ∃ m' h' tk', s' = { s with heap := h', toks := tk' } ∧ Fr s.heap L' h' m'

theorem enterLaw {prog : Program} {w : World} {K : Frag} {p : Program} {f : Addr} {s : Shared} {loose : List Str} {mean : ExcName → Option Value} {mg mb : Str → Option Value} {Q E : Value → Shared → Prop}
    {name qual : Str} {params : Arguments} {body : List Stmt} {scope : Scope} {dV kV doc pm cdv ct oc : Value} {an od : Option Addr} {osl : Array (Option Value)} {args : List Value} {binds : List (Str × Value)}
    (T : Top p loose mean mg mb s.heap) (X : K.In s.heap)
    (ho : K.lookup f = some ⟨oc, od, .func (fnOf name qual params body scope dV kV doc pm an cdv ct), osl⟩) (hcd : codeIn K cdv qual = true)
    (hbind : BindsTo s (fnOf name qual params body scope dV kV doc pm an cdv ct) ⟨args, []⟩ binds) (hkind : (binds.all fun y => scope.names.lookup y.1 == some .local || scope.names.lookup y.1 == some .cell) = true)
    (hnd : ((cellsFrom 0 scope.names []).map (·.1)).Nodup)
    (hQ : ∀ L' m' h' tk', Fr s.heap L' h' m' → Q (.bool true) { s with heap := h', toks := tk' })
    (h : ∀ (L' : Addr) (h₁ : Heap) (cells : List (Addr × Obj)) (tk : Nat), Fr s.heap L' h₁ (bindL (envOfC qual scope L' f cdv).kindOf binds fun _ => none) → News s.heap L' h₁ cells → CellsAre (bindC (envOfC qual scope L' f cdv).kindOf binds fun _ => none) (cellsFrom (L' + 1) scope.names []) cells →
      Below callerA s.heap [] s.heap →
      wpAny (model prog w) (ktrTop (1 + claimMargin + 1) 7 (some []) qual scope L' f cdv (cellsFrom (L' + 1) scope.names []) []) (execs body (envOfC qual scope L' f cdv)) (fun fl s' => LawEnd s L' (match fl with | .ret v => v | _ => .none) s')
        (fun e s' => wpAny (model prog w) (ktrTop (1 + claimMargin + 1) 7 (some []) qual scope L' f cdv (cellsFrom (L' + 1) scope.names []) []) (leaving (envOfC qual scope L' f cdv) e) (fun _ s'' => E e s'') (fun e' s'' => E e' s'') s')
        { s with heap := h₁, toks := tk })
    (hco : scope.isCoroutine = false) (hgen : scope.isGenerator = false) (hk : scope.kind = .function) :
    wpAny (model prog w) callerA (call (.ref f) args) Q E s := by
  refine wpAny_call ?_
  have hAd : callerA.depth < recursionLimit := by decide
  refine codeAny_call_function hAd (X _ _ ho) rfl hco hgen rfl (codeRec_of X hcd) (hbind _ _ _ _ ?_)
  refine wpAny_newFunctionEnv_cells hk (kindsX hkind _) fun env' he s' x => ?_
  subst he
  refine ⟨T.nolimit.keeps x.toInCall.keep, codeAny_func ?_⟩
  obtain ⟨h₁, tk, rfl, _⟩ := x.done
  have hk₁ := x.toInCall.keep
  obtain ⟨cells, NC, Y⟩ := Cl.news (h₀ := s.heap) (Nat.le_refl _) fun n c hm => ⟨x.cell n c (lookup_of_mem_nodup (cellsFrom_names scope.names 0 (s.heap.objs.size + 1) [] [] rfl ▸ hnd) hm), x.above n c hm⟩
  have FB : Fr s.heap s.heap.objs.size h₁ _ := ⟨x.toInCall.ns, hk₁, Nat.le_refl _⟩
  refine wpAny_mono (h s.heap.objs.size h₁ cells tk FB NC Y (below_caller s.heap)) (fun fl s' hl => ?_) fun _ _ y => y
  obtain ⟨hv, m', h', tk', rfl, F'⟩ := hl
  have key : ∀ v, v = Value.bool true → Q v { s with heap := h', toks := tk' } := fun v e => e ▸ hQ _ _ _ _ F'
  exact key _ hv
theorem con_use {prog : Program} {w : World} {K : Frag} {p : Program} {f : Addr} {dd uu : Nat} {args : List Value} {news : List (Addr × Obj)} {R : Value → List (Addr × Obj) → Prop}
    {loose : List Str} {mean : ExcName → Option Value} {mg mb : Str → Option Value} {dp un : Nat} {gd : Option (List Code)} {cn : Str} {cs : Scope} {a : Addr} {ccd : Value} {cl : List (Str × Addr)} {outer : List Env} {A₀ : Around} {base h₀ : Heap} {L : Addr} {m : Str → Option Value} {s : Shared}
    {Q E : Value → Shared → Prop} (C : Con prog w K p f dd uu args news R)
    (B : Below A₀ base outer h₀) (F : Fr h₀ L s.heap m) (X : K.In h₀) (N : News h₀ L s.heap news) (T : Top p loose mean mg mb h₀) (hk : cs.kind = .function) (hd : dp + dd < recursionLimit) (hu : un + uu < cLine)
    (ret : ∀ r tl h' tk', R r tl → Fr h₀ L h' m → News h₀ L h' (tl ++ news) → (∀ q ∈ tl, LCg.Off1 q.1 news) → Q r { s with heap := h', toks := tk' }) :
    wpAny (model prog w) (ktrTop dp un gd cn cs L a ccd cl outer) (call (.ref f) args) Q E s := C loose mean mg mb dp un gd cn cs a ccd cl outer A₀ base h₀ L m s Q E B F X N T hk hd hu ret
end Mine

namespace Mine
open PySem PySem.W PyProof.Rows PySem.Calls
set_option maxRecDepth 100000
section
variable {prog : Program} {w : World} {news : List (Addr × Obj)}

theorem pref_list {r : Addr} {vs : List Value} {c : Nat} {ns : List Int} (hm : (r, listOf vs.toArray c) ∈ news) (hi : IntsAre vs ns) (hn : ns.length ≤ 12) :
    Pref prog w news (.ref r) ns (fun n v => ∃ t, v = .int n t) where
  len := fun {A E s h₀ L Q} N h => len_ints_fit (News.isList N hm) hi (by omega) (by
    have := h (s.toks + 1) (s.toks + 1 + 1)
    exact this)
  item := fun {A E s h₀ L Q i t x y p q} N h0 h1 h => ksa_sub (n := c) N hm hi h0 h1 (by omega) (fun t' => h _ s.toks ⟨t', rfl⟩)
  ne := fun {A E s Q x y v v'} hx hy h => by
    obtain ⟨t, rfl⟩ := hx
    obtain ⟨u, rfl⟩ := hy
    exact ne_int h

theorem pref_tuple {r : Addr} {vs : List Value} {c : Nat} {ns : List Int} (hm : (r, ({ cls := .type "tuple", data := .seq vs.toArray c } : Obj)) ∈ news) (hi : IntsAre vs ns) (hn : ns.length ≤ 12) :
    Pref prog w news (.ref r) ns (fun n v => ∃ t, v = .int n t) where
  len := fun {A E s h₀ L Q} N h => by
    have hl : vs.toArray.size = ns.length := by simp [hi.length]
    have ht : IsTup s.heap r vs.toArray := ⟨_, (N _ hm).1, rfl, c, rfl⟩
    refine len_tuple ht (by rw [hl]; omega) ?_
    rw [hl]
    exact h _ _
  item := fun {A E s h₀ L Q i t x y p q} N h0 h1 h => by
    have ht : IsTup s.heap r vs.toArray := ⟨_, (N _ hm).1, rfl, c, rfl⟩
    have hlen := hi.length
    obtain ⟨u, hu⟩ := hi.get i.toNat (ns.getD i.toNat 0) (by
      have : i.toNat < ns.length := by omega
      simp [List.getD, this])
    refine item_tupleL (j := i.toNat) ht (by omega) (by omega) ?_ hu (h _ s.toks ⟨u, rfl⟩)
    have hn' : ¬ i < 0 := by omega
    simp [seqIndex?, hn', h0, show i < (vs.length : Int) by omega]
  ne := fun {A E s Q x y v v'} hx hy h => by
    obtain ⟨t, rfl⟩ := hx
    obtain ⟨u, rfl⟩ := hy
    exact ne_int h

theorem pref_str {x : Str} {u : Tok} (hn : x.cps.size ≤ 12) :
    Pref prog w news (.str x u) (x.cps.toList.map Int.ofNat) (fun n v => ∃ (k : Nat) (t : Tok), n = Int.ofNat k ∧ v = .str ⟨#[k]⟩ t) where
  len := fun {A E s h₀ L Q} N h => by
    have hz : (x.cps.toList.map Int.ofNat).length = x.length := by simp [Str.length]
    have hx : x.length ≤ 12 := hn
    refine len_str (by omega) ?_
    rw [← hz]
    exact h _ _
  item := fun {A E s h₀ L Q i t nx ny p q} N h0 h1 h => by
    have hz : (x.cps.toList.map Int.ofNat).length = x.cps.size := by simp
    have hi : i.toNat < x.cps.size := by omega
    refine subscriptTail_builtin (typeIs_str s x u) F.slot_str_getitem.lookup (getItem_str (c := x.cps[i.toNat]) (by simp; omega) ?_ ?_)
    · have hn' : ¬ i < 0 := by omega
      have hl : i < (x.length : Int) := by show i < (x.cps.size : Int); omega
      simp [seqIndex?, hn', h0, hl, hi]
    · refine h _ (s.toks + 1) ⟨x.cps[i.toNat], s.toks, ?_, rfl⟩
      simp [List.getD, hi]
  ne := fun {A E s Q a b v v'} hx hy h => by
    obtain ⟨k, t, rfl, rfl⟩ := hx
    obtain ⟨j, u, rfl, rfl⟩ := hy
    refine ne_str ?_
    have e : ((⟨#[k]⟩ : PySem.Str) != ⟨#[j]⟩) = (Int.ofNat k != Int.ofNat j) := by
      by_cases hkj : k = j
      · subst hkj; simp
      · have h1 : Int.ofNat k ≠ Int.ofNat j := fun q => hkj (Int.ofNat.inj q)
        have h2 : (⟨#[k]⟩ : PySem.Str) ≠ ⟨#[j]⟩ := fun q => hkj (by simpa using congrArg PySem.Str.cps q)
        rw [bne_iff_ne.mpr h1, bne_iff_ne.mpr h2]
    rw [e]
    exact h

theorem pref_bytes {b : List UInt8} {u : Tok} (hn : b.length ≤ 12) :
    Pref prog w news (.bytes b.toArray u) (b.map fun x => (x.toNat : Int)) (fun n v => ∃ t, v = .int n t) where
  len := fun {A E s h₀ L Q} N h => by
    have hz : (b.map fun x => (x.toNat : Int)).length = b.toArray.size := by simp
    refine len_bytes (by simp; omega) ?_
    rw [← hz]
    exact h _ _
  item := fun {A E s h₀ L Q i t nx ny p q} N h0 h1 h => by
    have hz : (b.map fun x => (x.toNat : Int)).length = b.length := by simp
    have hi : i.toNat < b.length := by omega
    refine subscriptTail_builtin (typeIs_bytes s b.toArray u) FB.slot_bytes_getitem.lookup (getItem_bytes (by omega) h0 (by omega) ?_)
    refine h _ (s.toks + 1) ⟨s.toks, ?_⟩
    simp [List.getD, hi]
  ne := fun {A E s Q x y v v'} hx hy h => by
    obtain ⟨t, rfl⟩ := hx
    obtain ⟨u, rfl⟩ := hy
    exact ne_int h
end
end Mine

namespace Mine
open PySem PySem.W PyProof.Rows PySem.Calls
set_option maxRecDepth 100000
/-- a contract of the def at f, with a word of the base: called with args over the ledger news it hands back r and lays tl, R r tl -/
def ConB (prog : Program) (w : World) (K : Frag) (p : Program) (f : Addr) (dd uu : Nat) (args : List Value) (Pb : Heap → Prop) (news : List (Addr × Obj)) (R : Value → List (Addr × Obj) → Prop) : Prop :=
  ∀ (loose : List Str) (mean : ExcName → Option Value) (mg mb : Str → Option Value) (dp un : Nat) (gd : Option (List Code)) (cn : Str) (cs : Scope) (a : Addr) (ccd : Value) (cl : List (Str × Addr)) (outer : List Env) (A₀ : Around) (base h₀ : Heap) (L : Addr) (m : Str → Option Value) (s : Shared)
    (Q E : Value → Shared → Prop),
    Pb h₀ → Below A₀ base outer h₀ → Fr h₀ L s.heap m → K.In h₀ → News h₀ L s.heap news → Top p loose mean mg mb h₀ → cs.kind = .function → dp + dd < recursionLimit → un + uu < cLine →
    (∀ r tl h' tk', R r tl → Fr h₀ L h' m → News h₀ L h' (tl ++ news) → (∀ q ∈ tl, LCg.Off1 q.1 news) → Q r { s with heap := h', toks := tk' }) →
    wpAny (model prog w) (ktrTop dp un gd cn cs L a ccd cl outer) (call (.ref f) args) Q E s

section
variable {prog : Program} {w : World} {K : Frag} {p : Program} {f : Addr} {dd uu : Nat} {news sel : List (Addr × Obj)} {R : Value → List (Addr × Obj) → Prop}
  {name qual : Str} {params : Arguments} {body : List Stmt} {scope : Scope} {dV kV doc pm cdv ct oc : Value} {an od : Option Addr} {osl : Array (Option Value)} {args : List Value} {binds : List (Str × Value)}

theorem enterB {Pb : Heap → Prop} (hPb : ∀ h h', h.StaysIn h' → Pb h → Pb h') (hs : ∀ q ∈ sel, q ∈ news)
    (ho : K.lookup f = some ⟨oc, od, .func (fnOf name qual params body scope dV kV doc pm an cdv ct), osl⟩) (hcd : codeIn K cdv qual = true)
    (hbind : ∀ s, BindsTo s (fnOf name qual params body scope dV kV doc pm an cdv ct) ⟨args, []⟩ binds) (hkind : (binds.all fun y => scope.names.lookup y.1 == some .local || scope.names.lookup y.1 == some .cell) = true)
    (hnd : ((cellsFrom 0 scope.names []).map (·.1)).Nodup)
    (h : ∀ (loose : List Str) (mean : ExcName → Option Value) (mg mb : Str → Option Value) (dp un : Nat) (gd : Option (List Code)) (cn : Str) (cs : Scope) (a : Addr) (ccd : Value) (cl : List (Str × Addr)) (outer : List Env) (base g : Heap) (L L' : Addr) (h₁ : Heap) (cells : List (Addr × Obj)) (tk : Nat) (s : Shared) (E : Value → Shared → Prop),
      Pb g → cs.kind = .function → dp + dd < recursionLimit → un + uu < cLine →
      Fr g L' h₁ (bindL (envOfC qual scope L' f cdv).kindOf binds fun _ => none) → News g L' h₁ (cells ++ sel) → CellsAre (bindC (envOfC qual scope L' f cdv).kindOf binds fun _ => none) (cellsFrom (L' + 1) scope.names []) cells →
      Below (ktrTop dp un gd cn cs L a ccd cl outer) base (envX cn cs L a ccd cl :: outer) g → K.In g → Top p loose mean mg mb g → (∀ p ∈ sel, p.1 < L') →
      wpAny (model prog w) ((ktrTop dp un gd cn cs L a ccd cl outer).deeper (envOfC qual scope L' f cdv)) (execs body (envOfC qual scope L' f cdv)) (fun fl s' => Ends g L' sel R s (match fl with | .ret v => v | _ => .none) s')
        (fun e s' => wpAny (model prog w) ((ktrTop dp un gd cn cs L a ccd cl outer).deeper (envOfC qual scope L' f cdv)) (leaving (envOfC qual scope L' f cdv) e) (fun _ s'' => E e s'') (fun e' s'' => E e' s'') s')
        { s with heap := h₁, toks := tk })
    (hd1 : 1 ≤ dd) (hco : scope.isCoroutine = false) (hgen : scope.isGenerator = false) (hk : scope.kind = .function) :
    ConB prog w K p f dd uu args Pb news R := by
  intro loose mean mg mb dp un gd cn cs a ccd cl outer A₀ base h₀ L m s Q E pb B F X N T hck hdp hun hret
  refine wpAny_call ?_
  have Ns : News h₀ L s.heap sel := fun q hq => N q (hs q hq)
  have Xs := X.keeps F.keep
  obtain ⟨FG, BG, st, -⟩ := groundX (R := fun _ _ => True) (A := ktrTop dp un gd cn cs L a ccd cl outer) (env := envX cn cs L a ccd cl) B F Ns rfl rfl hck
  have hAd : (ktrTop dp un gd cn cs L a ccd cl outer).depth < recursionLimit := by
    show dp < recursionLimit
    omega
  refine codeAny_call_function hAd (Xs _ _ ho) rfl hco hgen rfl (codeRec_of Xs hcd) (hbind _ _ _ _ _ ?_)
  refine wpAny_newFunctionEnv_cells hk (kindsX hkind _) fun env' he s' x => ?_
  subst he
  refine ⟨(T.nolimit.keeps F.keep).keeps x.toInCall.keep, codeAny_func ?_⟩
  obtain ⟨h₁, tk, rfl, _⟩ := x.done
  have hk₁ := x.toInCall.keep
  obtain ⟨cells, NC, Y⟩ := Cl.news (h₀ := s.heap) (Nat.le_refl _) fun n c hm => ⟨x.cell n c (lookup_of_mem_nodup (cellsFrom_names scope.names 0 (s.heap.objs.size + 1) [] [] rfl ▸ hnd) hm), x.above n c hm⟩
  have NG : News (hideAll s.heap (sel.map (·.1))) s.heap.objs.size h₁ (cells ++ sel) := fun p hp => by
    rcases List.mem_append.mp hp with hp | hp
    · refine ⟨(NC p hp).1, (NC p hp).2.1, ?_⟩
      cases q : (hideAll s.heap (sel.map (·.1))).get? p.1 with
      | none => rfl
      | some o => have := of_hideAll _ q; rw [(NC p hp).2.2] at this; cases this
    · exact ⟨hk₁ _ _ (Ns p hp).1, Nat.ne_of_lt (Heap.lt_size (Ns p hp).1), hideAll_none _ (List.mem_map_of_mem hp)⟩
  have FB : Fr (hideAll s.heap (sel.map (·.1))) s.heap.objs.size h₁ _ := ⟨x.toInCall.ns, fun b o e => hk₁ b o (of_hideAll _ e), Nat.le_of_eq (hideAll_size _ _)⟩
  refine wpAny_mono (h loose mean mg mb dp un gd cn cs a ccd cl outer base _ L s.heap.objs.size h₁ cells tk s E (hPb _ _ st pb) hck hdp hun FB NG Y BG (X.keeps st) (T.keeps st) fun p hp => Heap.lt_size (Ns p hp).1) (fun fl s' hl => ?_) fun _ _ y => y
  obtain ⟨m', tl, h', tk', rfl, F', N', O', r⟩ := hl
  obtain ⟨oL, es, ep, hL, hLd, hLk, hLf⟩ := F.ns
  have nL : L ∉ sel.map (·.1) := fun q => by
    obtain ⟨p, hp, e⟩ := List.mem_map.mp q
    exact (Ns p hp).2.1 e
  have hLg := hideAll_get (sel.map (·.1)) hL nL
  have old : ∀ q ∈ news, h'.get? q.1 = some q.2 := fun q hq => by
    by_cases hm : q.1 ∈ sel.map (·.1)
    · obtain ⟨r, hr, e⟩ := List.mem_map.mp hm
      have h1 := (Ns r hr).1
      rw [e, (N q hq).1] at h1
      have h2 := (N' r (List.mem_append_right _ hr)).1
      rw [e, ← Option.some.inj h1] at h2
      exact h2
    · exact F'.keep _ _ (hideAll_get _ (N q hq).1 hm)
  have hQ : ∀ v, R v tl → Q v { s with heap := h', toks := tk' } := by
    intro v r
    refine hret _ tl h' tk' r ⟨⟨oL, es, ep, F'.keep L oL hLg, hLd, hLk, hLf⟩, fun b o e => F'.keep b o (st b o e), F.above⟩ (fun q hq => ?_) fun q hq => off1_of fun p hp => ?_
    · rcases List.mem_append.mp hq with hq | hq
      · refine ⟨(N' q (List.mem_append_left _ hq)).1, fun e => ?_, ?_⟩
        · have := (N' q (List.mem_append_left _ hq)).2.2
          rw [e, hLg] at this; cases this
        · cases e : h₀.get? q.1 with
          | none => rfl
          | some o => have := (N' q (List.mem_append_left _ hq)).2.2; rw [st _ _ e] at this; cases this
      · exact ⟨old q hq, (N q hq).2⟩
    · by_cases hm : p.1 ∈ sel.map (·.1)
      · obtain ⟨r, hr, e⟩ := List.mem_map.mp hm
        rw [← e]
        exact off1_mem (O' q hq) r hr
      · intro e
        have := (N' q (List.mem_append_left _ hq)).2.2
        rw [← e, hideAll_get _ (N p hp).1 hm] at this; cases this
  exact hQ _ r
end
theorem con_useB {prog : Program} {w : World} {K : Frag} {p : Program} {f : Addr} {dd uu : Nat} {args : List Value} {Pb : Heap → Prop} {news : List (Addr × Obj)} {R : Value → List (Addr × Obj) → Prop}
    {loose : List Str} {mean : ExcName → Option Value} {mg mb : Str → Option Value} {dp un : Nat} {gd : Option (List Code)} {cn : Str} {cs : Scope} {a : Addr} {ccd : Value} {cl : List (Str × Addr)} {outer : List Env} {A₀ : Around} {base h₀ : Heap} {L : Addr} {m : Str → Option Value} {s : Shared}
    {Q E : Value → Shared → Prop} (C : ConB prog w K p f dd uu args Pb news R) (pb : Pb h₀)
    (B : Below A₀ base outer h₀) (F : Fr h₀ L s.heap m) (X : K.In h₀) (N : News h₀ L s.heap news) (T : Top p loose mean mg mb h₀) (hk : cs.kind = .function) (hd : dp + dd < recursionLimit) (hu : un + uu < cLine)
    (ret : ∀ r tl h' tk', R r tl → Fr h₀ L h' m → News h₀ L h' (tl ++ news) → (∀ q ∈ tl, LCg.Off1 q.1 news) → Q r { s with heap := h', toks := tk' }) :
    wpAny (model prog w) (ktrTop dp un gd cn cs L a ccd cl outer) (call (.ref f) args) Q E s := C loose mean mg mb dp un gd cn cs a ccd cl outer A₀ base h₀ L m s Q E pb B F X N T hk hd hu ret
end Mine

namespace Mine
open PySem PySem.W PyProof.Rows PySem.Calls
set_option maxRecDepth 100000

/-- the end of a turn of a loop whose target is a cell -/
def CellEnd (h₀ : Heap) (L c I : Addr) (oI : Obj) (Jn : (Str → Option Value) → List (Addr × Obj) → Prop) (s₁ s₂ : Shared) : Prop :=
  ∃ h' tk m' nx oc v, s₂ = { s₁ with heap := h', toks := tk } ∧ Fr h₀ L h' m' ∧ News h₀ L h' ((c, oc) :: (I, oI) :: nx) ∧ (∀ p ∈ nx, p.1 ≠ I ∧ p.1 ≠ c) ∧ oc.data = .cell v ∧ Jn m' nx
def CellPost (h₀ : Heap) (L c I : Addr) (oI : Obj) (Jn : (Str → Option Value) → List (Addr × Obj) → Prop) (s₁ : Shared) (Q : Flow → Shared → Prop) (f : Flow) (s₂ : Shared) : Prop :=
  match f with
  | .ret v => Q (.ret v) s₂
  | .brk => Q .next s₂
  | _ => CellEnd h₀ L c I oI Jn s₁ s₂

section
variable {prog : Program} {w : World} {A : Around} {E : Value → Shared → Prop} {s : Shared} {env : Env} {h₀ : Heap} {x : Str} {px pos : Pos} {iter : PySem.Expr} {body : List Stmt} {Q : Flow → Shared → Prop}

theorem for_range_cell {c : Addr}
    (hk : env.scope.kind = .function) (hx : env.kindOf x = some .cell) (hc : env.cells.lookup x = some c)
    (h : wpAny (model prog w) A (eval iter env) (fun xv s => ∃ r a₀ b₀ t₀ u₀ v₀ n m₀ oc vc news, ∃ J : Nat → (Str → Option Value) → List (Addr × Obj) → Prop, xv = .ref r ∧ A.handled = none ∧ IsRange s.heap r a₀ b₀ 1 t₀ u₀ v₀ ∧ Builtin.Range.small a₀ b₀ 1 = true ∧ Builtin.Range.rangeSize a₀ b₀ 1 = ((n : Nat) : Int) ∧
      Fr h₀ env.locals s.heap m₀ ∧ News h₀ env.locals s.heap ((c, oc) :: news) ∧ oc.data = .cell vc ∧ (∀ p ∈ news, p.1 ≠ c) ∧ J 0 m₀ news ∧
      (∀ (i : Nat) t (m₁ : Str → Option Value) (nx : List (Addr × Obj)) (I : Addr) (oI oc : Obj) h tk, i < n → J i m₁ nx → oc.data = .cell (some (.int (a₀ + i) t)) → (∀ p ∈ nx, p.1 ≠ I ∧ p.1 ≠ c) → @Ne Nat I c → Fr h₀ env.locals h m₁ → News h₀ env.locals h ((c, oc) :: (I, oI) :: nx) →
        wpAny (model prog w) A (execs body env) (CellPost h₀ env.locals c I oI (J (i + 1)) { s with heap := h, toks := tk } Q) E { s with heap := h, toks := tk }) ∧
      (∀ m₁ nx oc v h tk, J n m₁ nx → oc.data = .cell v → (∀ p ∈ nx, p.1 ≠ c) → Fr h₀ env.locals h m₁ → News h₀ env.locals h ((c, oc) :: nx) → Q .next { s with heap := h, toks := tk })) E s)
    (hs : ∀ x, foldedSetIterable iter env x = pure x := by intro _; rfl)
    (hE : PassesOwn (model prog w) A env E := by passes_own) :
    wpAny (model prog w) A (exec (.For (.Name x px) iter body [] pos) env) Q E s := by
  refine wpAny_For (wpAny_mono h (fun xv s h => ?_) fun _ _ e => e) hs
  obtain ⟨r, a₀, b₀, t₀, u₀, v₀, n, m₀, oc, vc, news, J, rfl, hh, hr, hsmall, hn, F, N, hoc, hap, h0, turn, done⟩ := h
  refine wpAny_pyIter_range hr hsmall ?_
  obtain ⟨I, hI⟩ : ∃ I, I = s.heap.objs.size := ⟨_, rfl⟩
  have W : Walks prog w A I [I] [I] n (fun i v => i < n ∧ ∃ t, v = .int (a₀ + i * 1) t) (fun i h => IsRangeIter h I (a₀ + (i : Nat) * 1) ((n : Int) - (i : Nat)) 1) := (Walks.range hh _ a₀ 1 n).bound
  rw [← hI]
  have hIL : I ≠ env.locals := fun e => absurd F.ns.lt (by rw [← e, hI]; exact Nat.lt_irrefl _)
  have hI0 : h₀.get? I = none := by rw [hI]; exact next_is_new F
  have hlt : ∀ p ∈ (c, oc) :: news, p.1 ≠ I := fun p hp e => absurd (Heap.lt_size (N p hp).1) (by rw [e, hI]; exact Nat.lt_irrefl _)
  have hcI : c ≠ I := hlt (c, oc) (.head _)
  have hst0 : IsRangeIter (s.heap.push { cls := .type "range_iterator", data := .fields #[rawInt a₀, rawInt (Builtin.Range.rangeSize a₀ b₀ 1), rawInt 1] }) I (a₀ + ((0 : Nat) : Int) * 1) ((n : Int) - ((0 : Nat) : Int)) 1 := by
    show _ = some _
    rw [hI, hn]
    simpa using Heap.get?_push_size _ rfl
  refine codeAny_forLoop
    (fun k s' => ∃ h' tk m' nx oc v i, s' = { s with heap := h', toks := tk } ∧ IsRangeIter h' I (a₀ + ((i : Nat) : Int) * 1) ((n : Int) - (i : Nat)) 1 ∧ Fr h₀ env.locals h' m' ∧ News h₀ env.locals h' ((c, oc) :: nx) ∧ oc.data = .cell v ∧ (∀ p ∈ nx, p.1 ≠ I ∧ p.1 ≠ c) ∧ J i m' nx ∧ i ≤ n ∧ k = n + 1 - i) ?_ (n + 1)
    ⟨_, s.toks, m₀, news, oc, vc, 0, rfl, hst0, F.push _, fun p hp => ⟨Heap.get?_push_of_some _ (N p hp).1, (N p hp).2⟩, hoc, fun p hp => ⟨hlt p (.tail _ hp), hap p hp⟩, h0, Nat.zero_le _, rfl⟩
  rintro k s' ⟨h', tk, m', nx, oc', v', i, rfl, hst', F', N', hoc', hap', hJ, hi, rfl⟩
  have next : ∀ h₁ : Heap, (∀ b o, b ∉ [I] → h'.get? b = some o → h₁.get? b = some o) → Fr h₀ env.locals h₁ m' ∧ News h₀ env.locals h₁ ((c, oc') :: nx) := fun h₁ hk₁ =>
    ⟨⟨F'.ns.at' fun o e => hk₁ _ o (by simpa using hIL.symm) e, fun b o e => hk₁ b o (fun q => by rw [List.mem_singleton.mp q, hI0] at e; cases e) (F'.keep b o e), F'.above⟩,
      fun p hp => ⟨hk₁ _ _ (by
        rcases List.mem_cons.mp hp with rfl | hp
        · simpa using hcI
        · simpa using (hap' p hp).1) (N' p hp).1, (N' p hp).2⟩⟩
  by_cases hlt' : i < n
  · refine W.item i _ _ _ hlt' hst' fun v h₁ tk₁ hP hst₁ hk₁ => ?_
    obtain ⟨_, t, rfl⟩ := hP
    obtain ⟨F₁, N₁⟩ := next h₁ hk₁
    have e1 : a₀ + (i : Int) * 1 = a₀ + (i : Int) := by omega
    rw [e1]
    have hcm := N₁ (c, oc') (.head _)
    refine wpAny_assign_Name (wpAny_storeName_cell hk hx hc ⟨oc', hcm.1, hoc'⟩ fun h₂ hv hs₂ => ?_)
    obtain ⟨oc₂, ho₂, hd₂⟩ := hv
    have F₂ : Fr h₀ env.locals h₂ m' := F₁.change hs₂ hcm.2.1 hcm.2.2
    have hst₂ : h₂.get? I = h₁.get? I := hs₂.2 _ (Ne.symm hcI)
    obtain ⟨oI, hoI⟩ : ∃ o, h₁.get? I = some o := ⟨_, hst₁⟩
    have N₂ : News h₀ env.locals h₂ ((c, oc₂) :: (I, oI) :: nx) := fun p hp => by
      rcases List.mem_cons.mp hp with rfl | hp
      · exact ⟨ho₂, hcm.2⟩
      · rcases List.mem_cons.mp hp with rfl | hp
        · exact ⟨hst₂.trans hoI, hIL, hI0⟩
        · have z := N₁ p (.tail _ hp)
          exact ⟨(hs₂.2 _ (hap' p hp).2).trans z.1, z.2⟩
    refine wpAny_mono (wpAny_passesOwn hE (turn i t m' nx I oI oc₂ h₂ _ hlt' hJ hd₂ hap' (Ne.symm hcI) F₂ N₂)) (fun f s₃ h₃ => ?_) fun _ _ e => e
    have fin : CellEnd h₀ env.locals c I oI (J (i + 1)) { s with heap := h₂, toks := tk₁ } s₃ → ∃ k', k' < n + 1 - i ∧ ∃ h' tk m' nx oc v i, s₃ = { s with heap := h', toks := tk } ∧ IsRangeIter h' I (a₀ + ((i : Nat) : Int) * 1) ((n : Int) - (i : Nat)) 1 ∧ Fr h₀ env.locals h' m' ∧ News h₀ env.locals h' ((c, oc) :: nx) ∧ oc.data = .cell v ∧ (∀ p ∈ nx, p.1 ≠ I ∧ p.1 ≠ c) ∧ J i m' nx ∧ i ≤ n ∧ k' = n + 1 - i := by
      rintro ⟨h₄, tk₃, m₃, nx₃, oc₃, v₃, rfl, F₃, N₃, ap₃, d₃, J₃⟩
      refine ⟨n + 1 - (i + 1), by omega, h₄, tk₃, m₃, nx₃, oc₃, v₃, i + 1, rfl, ?_, F₃, fun p hp => N₃ p ((List.mem_cons.mp hp).elim (fun e => e ▸ .head _) fun hp => .tail _ (.tail _ hp)), d₃, ap₃, J₃, hlt', rfl⟩
      have z := (N₃ (I, oI) (.tail _ (.head _))).1
      show h₄.get? I = some _
      rw [z, ← hoI]
      exact hst₁
    cases f with
    | ret v => exact h₃
    | brk => exact h₃
    | next => exact fin h₃
    | cont => exact fin h₃
  · have hin : i = n := by omega
    subst hin
    refine W.done _ _ _ hst' fun h₁ tk₁ hk₁ => wpAny_execs_nil ?_
    obtain ⟨F₁, N₁⟩ := next h₁ hk₁
    exact done m' nx oc' v' h₁ tk₁ hJ hoc' (fun p hp => (hap' p hp).2) F₁ N₁
end
end Mine

namespace Mine
open PySem PySem.W PyProof.Rows PySem.Calls
set_option maxRecDepth 100000
open PyProof.Rows.LCg PyProof.Rows.LCt

/-- a comprehension with one test, its turns by what is kept -/
theorem comp_invT {prog : Program} {w : World} {A : Around} {h₀ : Heap} {L : Addr} {m : Str → Option Value} {env : Env} {ct elt : PySem.Expr} {x : Str} {scope : Scope} {cl : List (Str × Addr)} {s : Shared} {S : List (Addr × Obj) → Prop} {P : Nat → Value → Prop} {Fin : List Value → List (Addr × Obj) → Prop}
    (J : Nat → List Value → List (Addr × Obj) → Prop) (n : Nat)
    (turn : ∀ i ys news v I oI C oC D m₂ h tk (E' : Value → Shared → Prop), i < n → J i ys news → P i v → NsObj oC m₂ → m₂ x = some v → Fr h₀ L h m → News h₀ L h ((I, oI) :: (C, oC) :: (D, lst ys) :: news) → Off3 I C D news → ((@Ne Nat I C) ∧ (@Ne Nat I D) ∧ (@Ne Nat C D)) →
      wpAny (model prog w) A (isTrue ct (compEnvC scope cl C env) (eval ct (compEnvC scope cl C env))) (fun ok s' => if ok = true then
        wpAny (model prog w) A (eval elt (compEnvC scope cl C env)) (CompEnd h₀ L m { s with heap := h, toks := tk } I oI C oC D (lst ys) S (fun y news' => J (i + 1) (ys ++ [y]) news')) E' s'
        else CompEnd h₀ L m { s with heap := h, toks := tk } I oI C oC D (lst ys) S (fun _ news' => J (i + 1) ys news') Value.none s') E' { s with heap := h, toks := tk })
    (done : ∀ ys news, J n ys news → Fin ys news) :
    ∀ k i ys news, k + i = n → J i ys news → CompRestT prog w A h₀ L m env ct elt x scope cl s S P Fin k i ys news
  | 0, i, ys, news, e, hj => by
    have e' : i = n := by omega
    subst e'
    exact done ys news hj
  | k + 1, i, ys, news, e, hj => by
    intro v I oI C oC D m₂ h tk E' hP hC hx F N off ne
    refine wpAny_mono (turn i ys news v I oI C oC D m₂ h tk E' (by omega) hj hP hC hx F N off ne) (fun ok s' hy => ?_) fun _ _ z => z
    cases ok with
    | true =>
      simp only [if_true] at hy ⊢
      refine wpAny_mono hy (fun y s' hy => ?_) fun _ _ z => z
      obtain ⟨h', tk', news', rfl, F', N', off', hS, hr⟩ := hy
      exact ⟨h', tk', news', rfl, F', N', off', hS, comp_invT J n turn done k (i + 1) (ys ++ [y]) news' (by omega) hr⟩
    | false =>
      simp only [Bool.false_eq_true, if_false] at hy ⊢
      obtain ⟨h', tk', news', rfl, F', N', off', hS, hr⟩ := hy
      exact ⟨h', tk', news', rfl, F', N', off', hS, comp_invT J n turn done k (i + 1) ys news' (by omega) hr⟩
end Mine

namespace Mine
open PySem PySem.W PyProof.Rows PySem.Calls
set_option maxRecDepth 100000
section
variable {prog : Program} {w : World} {A : Around} {E : Value → Shared → Prop} {s : Shared} {env : Env} {h₀ : Heap} {x : Str} {body : List Stmt} {Q : Flow → Shared → Prop}
/-- a loop over a list of the ledger by what it keeps; the list itself is not kept -/
theorem list_inv {D : Addr} {its : List Value} {c : Nat} {m₀ : Str → Option Value} {news : List (Addr × Obj)} (J : Nat → (Str → Option Value) → List (Addr × Obj) → Prop)
    (hh : A.handled = none) (F : Fr h₀ env.locals s.heap m₀) (ND : News h₀ env.locals s.heap [(D, listOf its.toArray c)]) (N : News h₀ env.locals s.heap news) (hne : ∀ p ∈ news, p.1 ≠ D) (hj : J 0 m₀ news)
    (turn : ∀ (i : Nat) v (m₁ : Str → Option Value) (news₁ : List (Addr × Obj)) h tk own, i < its.length → its[i]? = some v → news₁.map (·.1) = news.map (·.1) → OwnOff own (news.map (·.1)) → J i m₁ news₁ →
      Fr h₀ env.locals h (fun y => if y = x then some v else m₁ y) → News h₀ env.locals h (news₁ ++ own) →
      wpAny (model prog w) A (execs body env) (InvPostN h₀ env.locals (J (i + 1)) own (news.map (·.1)) { s with heap := h, toks := tk } Q) E { s with heap := h, toks := tk })
    (done : ∀ m₁ news₁ h tk, J its.length m₁ news₁ → Fr h₀ env.locals h m₁ → News h₀ env.locals h news₁ → Q .next { s with heap := h, toks := tk }) :
    wpAny (model prog w) A (pyIter (.ref D)) (fun it s₂ => LoopAtV prog w A h₀ env x body Q E it s₂) E s := by
  have hD := ND _ (.head _)
  have hl : s.heap.IsList D its.toArray := ⟨_, hD.1, rfl, _, rfl⟩
  have hlt : D < s.heap.objs.size := Heap.lt_size hD.1
  refine wpAny_pyIter_list hl ?_
  have W := Walks.list (prog := prog) (w := w) (A := A) hh s.heap.objs.size D (Nat.ne_of_lt hlt) its.toArray
  have e : its.toArray.size = its.length := List.size_toArray ..
  rw [e] at W
  refine loop_invN J W ?_ ?_ ?_ ?_ ⟨⟨_, Heap.get?_push_size _ rfl, rfl, rfl⟩, hl.push _⟩ (F.push _)
    (fun p hp => ⟨Heap.get?_push_of_some _ (N p hp).1, (N p hp).2⟩) hj ?_ done
  · intro hm
    rcases List.mem_cons.mp hm with h | h
    · exact absurd F.ns.lt (h ▸ Nat.lt_irrefl _)
    · exact hD.2.1 (List.mem_singleton.mp h).symm
  · intro b hb
    rw [List.mem_singleton.mp hb]
    exact next_is_new F
  · intro p hp hI
    exact absurd (Heap.lt_size (N p hp).1) ((List.mem_singleton.mp hI) ▸ Nat.lt_irrefl _)
  · intro p hp hI
    rcases List.mem_cons.mp hI with h | h
    · exact absurd (Heap.lt_size (N p hp).1) (h ▸ Nat.lt_irrefl _)
    · exact hne p hp (List.mem_singleton.mp h)
  · intro i v m₁ nx h tk own hi hP ha hoff hJ F₁ N₁
    exact turn i v m₁ nx h tk own hi (by simpa using hP) ha hoff hJ F₁ N₁
end
end Mine

namespace Mine
open PySem PySem.W PyProof.Rows PySem.Calls
set_option maxRecDepth 100000
section
variable {prog : Program} {w : World} {A : Around} {E : Value → Shared → Prop} {s : Shared}

theorem len_txt {cs : List Nat} {t : Tok} {Q : Value → Shared → Prop} (hn : cs.length ≤ 60) (h : ∀ t tk, Q (.int cs.length t) { s with toks := tk }) :
    wpAny (model prog w) A (call (.builtin "len") [.str ⟨cs.toArray⟩ t]) Q E s := by
  have hx : (⟨cs.toArray⟩ : PySem.Str).length = cs.length := by simp [Str.length]
  refine len_str (by rw [hx]; omega) ?_
  rw [hx]
  exact h _ _
theorem item_txt {cs : List Nat} {t u : Tok} {i : Int} {nx : Str} {p : Pos} {sl : PySem.Expr} {Q : Value → Shared → Prop} (hn : cs.length ≤ 60) (h0 : 0 ≤ i) (h1 : i < cs.length)
    (h : ∀ t tk, Q (.str ⟨#[cs.getD i.toNat 0]⟩ t) { s with toks := tk }) (hs : subscripted sl false (.str ⟨cs.toArray⟩ t) (.int i u) = operate [.str ⟨cs.toArray⟩ t, .int i u] (getItem (.str ⟨cs.toArray⟩ t) (.int i u)) := by with_unfolding_all rfl) :
    wpAny (model prog w) A (subscriptTail (.Name nx p) sl (.str ⟨cs.toArray⟩ t) (.int i u)) Q E s := by
  have hi : i.toNat < cs.length := by omega
  refine subscriptTail_builtin (typeIs_str s ⟨cs.toArray⟩ t) F.slot_str_getitem.lookup (getItem_str (c := cs[i.toNat]) (by simp; omega) ?_ ?_) hs
  · have hn' : ¬ i < 0 := by omega
    have hl : i < ((⟨cs.toArray⟩ : PySem.Str).length : Int) := by show i < (cs.toArray.size : Int); rw [List.size_toArray]; omega
    simp [seqIndex?, hn', h0, hl, hi]
  · have := h s.toks (s.toks + 1)
    simpa [List.getD, hi] using this
theorem ne_one {a b : Nat} {t u : Tok} {Q : Value → Shared → Prop} (h : Q (.bool (a != b)) s) :
    wpAny (model prog w) A (compareOp .NotEq (.str ⟨#[a]⟩ t) (.str ⟨#[b]⟩ u)) Q E s := by
  refine ne_str ?_
  have e : ((⟨#[a]⟩ : PySem.Str) != ⟨#[b]⟩) = (a != b) := by
    by_cases hkj : a = b
    · subst hkj; simp
    · have h2 : (⟨#[a]⟩ : PySem.Str) ≠ ⟨#[b]⟩ := fun q => hkj (by simpa using congrArg PySem.Str.cps q)
      rw [bne_iff_ne.mpr hkj, bne_iff_ne.mpr h2]
  rw [e]
  exact h
end

theorem slice_to {cs : List Nat} {j : Int} (h : 0 ≤ j) : Txt.slice ⟨cs.toArray⟩ none (some j) = ⟨(cs.take j.toNat).toArray⟩ := by
  have hl : ((⟨cs.toArray⟩ : PySem.Str).length : Int) = (cs.length : Int) := by simp [Str.length]
  rw [beq_iff_eq.mp (slice_to_min_closes (x := ⟨cs.toArray⟩) h rfl), hl]
  apply congrArg Str.mk
  apply congrArg List.toArray
  show List.take _ (List.drop 0 cs) = _
  rw [List.drop_zero]
  split
  · rw [List.take_of_length_le (by omega), List.take_of_length_le (by omega)]
  · rw [Int.sub_zero]
theorem slice_from {cs : List Nat} {j : Int} (h : 0 ≤ j) (h2 : j ≤ cs.length) : Txt.slice ⟨cs.toArray⟩ (some j) none = ⟨(cs.drop j.toNat).toArray⟩ := by
  have hl : ((⟨cs.toArray⟩ : PySem.Str).length : Int) = (cs.length : Int) := by simp [Str.length]
  rw [slice_from_eq (b := (cs.length : Int)) h (by rw [hl]; exact h2) hl.symm]
  apply congrArg Str.mk
  apply congrArg List.toArray
  show List.take _ (List.drop j.toNat cs) = _
  rw [List.take_of_length_le (by rw [List.length_drop]; omega)]
section
variable {prog : Program} {w : World} {A : Around} {E : Value → Shared → Prop} {s : Shared} {h₀ : Heap} {L : Addr} {m : Str → Option Value} {news : List (Addr × Obj)} {Q : Value → Shared → Prop} {value slice : PySem.Expr} {cs : List Nat} {t : Tok}
theorem cut_to {j : Int} {uj : Tok} (hF : Fr h₀ L s.heap m) (hN : News h₀ L s.heap news) (hn : cs.length ≤ 60) (h0 : 0 ≤ j) (h : ∀ h' t' k, Fr h₀ L h' m → News h₀ L h' news → Q (.str ⟨(cs.take j.toNat).toArray⟩ t') { s with heap := h', toks := k })
    (hs : subscripted slice false (.str ⟨cs.toArray⟩ t) (.ref s.heap.objs.size) = operate [.ref s.heap.objs.size, .str ⟨cs.toArray⟩ t] (getItem (.str ⟨cs.toArray⟩ t) (.ref s.heap.objs.size)) := by with_unfolding_all rfl)
    (ht : ∀ r, letTemporaryGo value (.str ⟨cs.toArray⟩ t) r = pure () := by intro _; with_unfolding_all rfl) :
    wpAny (model prog w) A (subscriptTail value slice (.str ⟨cs.toArray⟩ t) (.ref s.heap.objs.size)) Q E { s with heap := s.heap.push { cls := .type "slice", data := .fields #[.none, .int j uj, .none] } } :=
  slice_strN_ns_len hF hN (fun h' t' k F N _ => by rw [slice_to h0]; exact h h' t' k F N) hs ht (by rw [sizeLine_eq]; simp [Str.length]; omega)
theorem cut_from {j : Int} {uj : Tok} (hF : Fr h₀ L s.heap m) (hN : News h₀ L s.heap news) (hn : cs.length ≤ 60) (h0 : 0 ≤ j) (h1 : j ≤ cs.length) (h : ∀ h' t' k, Fr h₀ L h' m → News h₀ L h' news → Q (.str ⟨(cs.drop j.toNat).toArray⟩ t') { s with heap := h', toks := k })
    (hs : subscripted slice false (.str ⟨cs.toArray⟩ t) (.ref s.heap.objs.size) = operate [.ref s.heap.objs.size, .str ⟨cs.toArray⟩ t] (getItem (.str ⟨cs.toArray⟩ t) (.ref s.heap.objs.size)) := by with_unfolding_all rfl)
    (ht : ∀ r, letTemporaryGo value (.str ⟨cs.toArray⟩ t) r = pure () := by intro _; with_unfolding_all rfl) :
    wpAny (model prog w) A (subscriptTail value slice (.str ⟨cs.toArray⟩ t) (.ref s.heap.objs.size)) Q E { s with heap := s.heap.push { cls := .type "slice", data := .fields #[.int j uj, .none, .none] } } :=
  slice_strN_sn_len hF hN (fun h' t' k F N _ => by rw [slice_from h0 h1]; exact h h' t' k F N) hs ht (by rw [sizeLine_eq]; simp [Str.length]; omega)
theorem cat_txt {a b : List Nat} {t u : Tok} {Q : Value → Shared → Prop} (h : ∀ t tk, Q (.str ⟨(a ++ b).toArray⟩ t) { s with toks := tk }) (hn : a.length + b.length ≤ 60) :
    wpAny (model prog w) A (binaryOp .Add (.str ⟨a.toArray⟩ t) (.str ⟨b.toArray⟩ u)) Q E s := by
  have e : ((⟨a.toArray⟩ : PySem.Str) ++ ⟨b.toArray⟩) = ⟨(a ++ b).toArray⟩ := by
    show Str.mk (a.toArray ++ b.toArray) = _
    rw [List.append_toArray]
  refine add_str (fun t' tk => ?_) (by rw [sizeLine_eq]; simp [Str.length]; omega)
  rw [e]
  exact h t' tk
end
end Mine

namespace Mine
open PySem PySem.W PyProof.Rows PySem.Calls
set_option maxRecDepth 100000
theorem lex_txt : ∀ a b : List Nat, lexLt (a.map Int.ofNat) (b.map Int.ofNat) = decide (a < b)
  | [], [] => by simp [lexLt]
  | [], _ :: _ => by simp [lexLt]
  | _ :: _, [] => by simp [lexLt]
  | x :: xs, y :: ys => by
    have ih := lex_txt xs ys
    show (if Int.ofNat x = Int.ofNat y then lexLt (xs.map Int.ofNat) (ys.map Int.ofNat) else decide (Int.ofNat x < Int.ofNat y)) = _
    rw [ih]
    by_cases h : x = y
    · subst h
      simp
    · have h1 : ¬ Int.ofNat x = Int.ofNat y := fun q => h (Int.ofNat.inj q)
      rw [if_neg h1]
      have h2 : (Int.ofNat x < Int.ofNat y) ↔ x < y := by
        show ((x : Int) < (y : Int)) ↔ _
        omega
      by_cases h3 : x < y
      · simp [h2, h3, List.cons_lt_cons_iff]
      · simp [h2, h3, List.cons_lt_cons_iff, h]
section
variable {prog : Program} {w : World} {A : Around} {E : Value → Shared → Prop} {s : Shared}
theorem rich_gt_txt {a b : List Nat} {t u : Tok} {Q : Value → Shared → Prop} (h : Q (.bool (lexLt (b.map Int.ofNat) (a.map Int.ofNat))) s) :
    wpAny (model prog w) A (richCompare .Gt (.str ⟨a.toArray⟩ t) (.str ⟨b.toArray⟩ u)) Q E s := by
  rw [lex_txt] at h
  exact richCompare_gives (typeIs_str s ⟨a.toArray⟩ t) (typeIs_str s ⟨b.toArray⟩ u) F.slot_str_gt F.entry_str_gt (F.args_str_gt_2 _ _) (gives_str_gt ⟨a.toArray⟩ ⟨b.toArray⟩ t u) (fun e => nomatch e) h
end
/-- texts -/
def TxtsAre : List Value → List (List Nat) → Prop
  | [], [] => True
  | y :: ys, r :: rs => (∃ t, y = .str ⟨r.toArray⟩ t) ∧ TxtsAre ys rs
  | _, _ => False
theorem TxtsAre.length : ∀ {ys : List Value} {rs : List (List Nat)}, TxtsAre ys rs → ys.length = rs.length
  | [], [], _ => rfl
  | _ :: _, _ :: _, h => congrArg Nat.succ (TxtsAre.length h.2)
theorem TxtsAre.snoc {r : List Nat} {t : Tok} : ∀ {ys : List Value} {rs : List (List Nat)}, TxtsAre ys rs → TxtsAre (ys ++ [.str ⟨r.toArray⟩ t]) (rs ++ [r])
  | [], [], _ => ⟨⟨t, rfl⟩, trivial⟩
  | _ :: _, _ :: _, h => ⟨h.1, TxtsAre.snoc h.2⟩
theorem TxtsAre.at : ∀ {ys : List Value} {rs : List (List Nat)}, TxtsAre ys rs → ∀ {i : Nat} {v : Value}, ys[i]? = some v → ∃ t, v = .str ⟨(rs.getD i []).toArray⟩ t
  | _ :: _, _ :: _, h, 0, v, e => by
    have e' : _ = v := Option.some.inj e
    subst e'
    exact h.1
  | _ :: _, _ :: _, h, i + 1, v, e => TxtsAre.at h.2 e
  | [], [], _, _, _, e => nomatch e
/-- max of a list of a text's ends -/
theorem max_ends {prog : Program} {w : World} {A : Around} {E : Value → Shared → Prop} {s : Shared} {h₀ : Heap} {L l : Addr} {m : Str → Option Value} {news : List (Addr × Obj)} {ys : List Value} {n : Nat} {cs : List Nat} {Q : Value → Shared → Prop}
    (hh : A.handled = none) (F : Fr h₀ L s.heap m) (N : News h₀ L s.heap news) (hm : (l, listOf ys.toArray n) ∈ news) (hr : TxtsAre ys ((List.range cs.length).map fun j => cs.drop j)) (hne : 0 < cs.length)
    (h : ∀ i t h' tk, Top1 (cs.map Int.ofNat) i → Fr h₀ L h' m → News h₀ L h' news → Q (.str ⟨(cs.drop i).toArray⟩ t) { s with heap := h', toks := tk }) :
    wpAny (model prog w) A (call (.builtin "max") [.ref l]) Q E s := by
  have hlen := hr.length
  rw [List.length_map, List.length_range] at hlen
  have hg : ∀ i, i < cs.length → (((List.range cs.length).map fun j => cs.drop j).getD i []) = cs.drop i := fun i hi => by simp [List.getD, hi]
  refine max_list_on (fun i j => lexLt ((cs.drop j).map Int.ofNat) ((cs.drop i).map Int.ofNat)) hh F N hm (by omega) ?_ ?_
  · intro i j vi vj s' Q' E' hN hi hj hq
    have hi' : i < ys.length := (List.getElem?_eq_some_iff.mp hi).1
    have hj' : j < ys.length := (List.getElem?_eq_some_iff.mp hj).1
    obtain ⟨t, rfl⟩ := hr.at hi
    obtain ⟨u, rfl⟩ := hr.at hj
    rw [hg i (by omega), hg j (by omega)]
    exact rich_gt_txt hq
  · intro v h' tk hv F' N'
    obtain ⟨hle, hbest⟩ := best_spec (fun k => (cs.drop k).map Int.ofNat) (ys.length - 1)
    obtain ⟨t, rfl⟩ := hr.at hv
    rw [hg _ (by omega)]
    refine h _ t h' tk ⟨by rw [List.length_map]; omega, fun j hj => ?_⟩ F' N'
    rw [List.length_map] at hj
    rw [← List.map_drop, ← List.map_drop]
    exact hbest j (by omega)
end Mine

namespace Mine
open PySem PySem.W PyProof.Rows PySem.Calls
set_option maxRecDepth 100000
open PyProof.Rows.LCg
/-- a comprehension's source that is a text of plain letters -/
def CompSrcS (prog : Program) (w : World) (A : Around) (h₀ : Heap) (L : Addr) (m : Str → Option Value) (env : Env) (elt : PySem.Expr) (x : Str) (scope : Scope) (cl : List (Str × Addr)) (Fin : Shared → List Value → List (Addr × Obj) → Prop) (xv : Value) (s₁ : Shared) : Prop :=
  ∃ (cs : List Nat) (t : Tok) (news : List (Addr × Obj)), xv = .str ⟨cs.toArray⟩ t ∧ A.handled = none ∧ Fr h₀ L s₁.heap m ∧ News h₀ L s₁.heap news ∧ cs.length ≤ 60 ∧ (∀ c ∈ cs, c < 128) ∧
    ∀ g, CompRest prog w A h₀ L m env elt x scope cl { s₁ with heap := g } (fun _ => True) (fun i v => ∃ t, v = .str ⟨#[cs.getD i 0]⟩ t) (Fin { s₁ with heap := g }) cs.length 0 [] news
section
variable {prog : Program} {w : World} {A : Around} {E : Value → Shared → Prop} {s : Shared} {h₀ : Heap} {L : Addr} {m : Str → Option Value} {env : Env}
theorem str_st {I : Addr} {x : Str} {t : Tok} : ∀ i (h h' : Heap) (o : Obj) (nw : List (Addr × Obj)), h.IsStrIter I "str_ascii_iterator" x t i → h.get? I = some o → h'.get? I = some o → (∀ b o, h₀.get? b = some o → h'.get? b = some o) → News h₀ L h' nw → True → h'.IsStrIter I "str_ascii_iterator" x t i :=
  fun i h h' o nw st e e' _ _ _ => by
    obtain ⟨o', q, r⟩ := st
    rw [e] at q
    cases q
    exact ⟨o, e', r⟩
theorem txt_walks {I : Addr} (hh : A.handled = none) (cs : List Nat) (t : Tok) : Walks prog w A I [I] [I] cs.length (fun i v => ∃ t, v = .str ⟨#[cs.getD i 0]⟩ t) (fun i h => h.IsStrIter I "str_ascii_iterator" ⟨cs.toArray⟩ t i) := by
  have W := Walks.strAscii (prog := prog) (w := w) (A := A) hh I ⟨cs.toArray⟩ t
  have e : (⟨cs.toArray⟩ : PySem.Str).cps.size = cs.length := by simp
  rw [e] at W
  exact { sub := W.sub, frame := W.frame, done := W.done, self := W.self,
          item := fun i s Q E hi st hQ => W.item i s Q E hi st fun v h' tk hP => hQ v h' tk (by
            obtain ⟨c, u, hc, rfl⟩ := hP
            refine ⟨u, ?_⟩
            have hc' : cs[i]? = some c := by simpa using hc
            simp [List.getD, hc']) }
theorem ListComp_S {elt : PySem.Expr} {x y : Str} {px py : Pos} {scope : Scope} {cl : List (Str × Addr)} {pos : Pos} {Q : Value → Shared → Prop} (F₀ : Fr h₀ L s.heap m)
    (hclos : closureFor scope env = pure cl) (hcell : ∀ y ∈ scope.names, y.2 ≠ .cell) (hkind : scope.kind = .function)
    (hnames : ∀ y ∈ scope.names, y.2 = .local → scope.names.lookup y.1 = some .local) (hx : scope.names.lookup x = some .local)
    (h : wpAny (model prog w) A (eval (.Name y py) env) (CompSrcS prog w A h₀ L m env elt x scope cl (fun s₂ => FinE h₀ L m s₂ Q)) E s)
    (hs : ∀ x, foldedSetIterable (.Name y py) env x = pure x := by intro _; rfl) :
    wpAny (model prog w) A (eval (.ListComp elt [⟨.Name x px, .Name y py, [], 0⟩] scope pos) env) Q E s := by
  rw [eval_ListComp]
  refine wpAny_comprehension_free (use := none) rfl hs hclos hkind hnames (wpAny_mono h (fun xv s₁ h₁ => ?_) fun _ _ e => e)
  obtain ⟨cs, t, news, rfl, hh, F, N, hsz, hasc, R⟩ := h₁
  refine wpAny_pyIter_ascii (by
    rw [Array.all_eq_true]
    intro i hi
    simp at hi
    simpa using hasc _ (List.getElem_mem hi)) ?_
  have hc0 : (s₁.heap.push { cls := .type "str_ascii_iterator", data := .fields #[.str ⟨cs.toArray⟩ t, .int 0 0] }).IsStrIter s₁.heap.objs.size "str_ascii_iterator" ⟨cs.toArray⟩ t 0 := ⟨_, Heap.get?_push_size _ rfl, rfl, rfl⟩
  refine block_U (txt_walks hh cs t) (by rw [sizeLine_eq]; omega) (fun i h st => by obtain ⟨o, e, _⟩ := st; exact ⟨o, e⟩) str_st hcell hkind hx hc0 (fun b hb => ?_)
    (F.keeps fun _ _ e => Heap.get?_push_of_some _ e) (N.grown fun _ _ e => Heap.get?_push_of_some _ e) (Nat.ne_of_lt F.ns.lt) (next_is_new F) (fun p hp => Nat.ne_of_lt (Heap.lt_size (N p hp).1)) trivial (R _) ?_
  · rw [List.mem_singleton.mp hb]
    show s₁.heap.objs.size < (s₁.heap.push _).objs.size
    rw [Heap.size_push]; exact Nat.lt_succ_self _
  · intro D C h tk m' ys news' F' N' o1 hn hC₀ hD₀ hCL hDL hCD offC fin
    refine ⟨m', hn, fun h'' hs'' => fin D h'' tk (F'.change hs'' hCL hC₀) (fun p hp => ?_) o1⟩
    refine ⟨hs''.extBut _ _ ?_ (N' p hp).1, (N' p hp).2⟩
    rcases List.mem_cons.mp hp with rfl | hp
    · exact Ne.symm hCD
    · exact offC p hp
theorem Assign_ListComp_S {elt : PySem.Expr} {x y n : Str} {px py pn : Pos} {scope : Scope} {cl : List (Str × Addr)} {pos spos : Pos} {Q : Flow → Shared → Prop} (F₀ : Fr h₀ L s.heap m) (hLe : env.locals = L)
    (hsw : swapsWith (.ListComp elt [⟨.Name x px, .Name n pn, [], 0⟩] scope pos) (some (.Name y py)) spos.line env = pure true)
    (hclos : closureFor scope env = pure cl) (hcell : ∀ z ∈ scope.names, z.2 ≠ .cell) (hkind : scope.kind = .function)
    (hnames : ∀ z ∈ scope.names, z.2 = .local → scope.names.lookup z.1 = some .local) (hx : scope.names.lookup x = some .local)
    (hy : env.kindOf y = some .local) (hp : (env.scope.kind == .class || (env.scope.kind == .module && env.locals != env.globals)) = false)
    (h : wpAny (model prog w) A (eval (.Name n pn) env) (CompSrcS prog w A h₀ L m env elt x scope cl (fun s₂ => FinA h₀ L m s₂ y Q)) E s)
    (hs : ∀ x, foldedSetIterable (.Name n pn) env x = pure x := by intro _; rfl) :
    wpAny (model prog w) A (exec (.Assign [.Name y py] (.ListComp elt [⟨.Name x px, .Name n pn, [], 0⟩] scope pos) spos) env) Q E s := by
  subst hLe
  rw [exec_Assign_Name_used _ _ _ _ hsw]
  refine wpAny_bind (wpAny_standAt (wpAny_bind ?_))
  show wpAny _ A (do let _ ← comprehension (.ListComp elt [⟨.Name x px, .Name n pn, [], 0⟩] scope pos) scope env _ (newList []) false (eval (.Name n pn) env) (some (assign (.Name y py) env))) _ _ s
  refine wpAny_bind (wpAny_mono (wpAny_comprehension_free (use := some (assign (.Name y py) env)) (Q := fun _ s' => Q .next s') rfl hs hclos hkind hnames
    (wpAny_mono h (fun xv s₁ h₁ => ?_) fun _ _ e => e)) (fun _ s' hq => wpAny_pure (wpAny_pure hq)) fun _ _ e => e)
  obtain ⟨cs, t, news, rfl, hh, F, N, hsz, hasc, R⟩ := h₁
  refine wpAny_pyIter_ascii (by
    rw [Array.all_eq_true]
    intro i hi
    simp at hi
    simpa using hasc _ (List.getElem_mem hi)) ?_
  have hc0 : (s₁.heap.push { cls := .type "str_ascii_iterator", data := .fields #[.str ⟨cs.toArray⟩ t, .int 0 0] }).IsStrIter s₁.heap.objs.size "str_ascii_iterator" ⟨cs.toArray⟩ t 0 := ⟨_, Heap.get?_push_size _ rfl, rfl, rfl⟩
  refine block_U (txt_walks hh cs t) (by rw [sizeLine_eq]; omega) (fun i h st => by obtain ⟨o, e, _⟩ := st; exact ⟨o, e⟩) str_st hcell hkind hx hc0 (fun b hb => ?_)
    (F.keeps fun _ _ e => Heap.get?_push_of_some _ e) (N.grown fun _ _ e => Heap.get?_push_of_some _ e) (Nat.ne_of_lt F.ns.lt) (next_is_new F) (fun p hp => Nat.ne_of_lt (Heap.lt_size (N p hp).1)) trivial (R _) ?_
  · rw [List.mem_singleton.mp hb]
    show s₁.heap.objs.size < (s₁.heap.push _).objs.size
    rw [Heap.size_push]; exact Nat.lt_succ_self _
  · intro D C h' tk m' ys news' F' N' o1 hn hC₀ hD₀ hCL hDL hCD offC fin
    show wpAny _ A (assign (.Name y py) env (.ref D)) _ _ _
    refine wpAny_assign_Name (wpAny_storeName_local hy F'.ns (fun h₂ hn₂ hs₂ => ?_) hp)
    have hL₀ : h₀.get? env.locals = none := Heap.get?_none_of_le F'.above
    have F₂ : Fr h₀ env.locals h₂ (fun z => if z = y then some (.ref D) else m z) := ⟨hn₂, fun b o e => hs₂.extBut b o (fun q => by rw [q, hL₀] at e; cases e) (F'.keep b o e), F'.above⟩
    refine ⟨m', hn.sameBut hs₂ hCL, fun h'' hs'' => fin D h'' _ (F₂.change hs'' hCL hC₀) (fun p hp => ?_) o1⟩
    have z : h₂.get? p.1 = some p.2 := hs₂.extBut _ _ (N' p hp).2.1 (N' p hp).1
    refine ⟨hs''.extBut _ _ ?_ z, (N' p hp).2⟩
    rcases List.mem_cons.mp hp with rfl | hp
    · exact Ne.symm hCD
    · exact offC p hp
end
end Mine

namespace Mine
open PySem PySem.W PyProof.Rows PySem.Calls
set_option maxRecDepth 100000
theorem lex_one (a b : Int) : lexLt [a] [b] = decide (a < b) := by
  show (if a = b then false else decide (a < b)) = _
  by_cases h : a = b
  · rw [if_pos h, h]; simp
  · rw [if_neg h]
section
variable {prog : Program} {w : World} {A : Around} {E : Value → Shared → Prop} {s : Shared}
theorem rich_gt_int {a b : Int} {t u : Tok} {Q : Value → Shared → Prop} (h : Q (.bool (decide (b < a))) s) :
    wpAny (model prog w) A (richCompare .Gt (.int a t) (.int b u)) Q E s :=
  richCompare_gives (typeIs_int s a t) (typeIs_int s b u) F.slot_int_gt F.entry_int_gt (F.args_int_gt_2 _ _) (gives_int_gt a b t u) (fun e => nomatch e) h
/-- max of a list of ints -/
theorem max_ints {h₀ : Heap} {L l : Addr} {m : Str → Option Value} {news : List (Addr × Obj)} {ys : List Value} {n : Nat} {zs : List Int} {Q : Value → Shared → Prop}
    (hh : A.handled = none) (F : Fr h₀ L s.heap m) (N : News h₀ L s.heap news) (hm : (l, listOf ys.toArray n) ∈ news) (hr : IntsAre ys zs) (hne : 0 < zs.length)
    (h : ∀ M t h' tk, M ∈ zs → (∀ z ∈ zs, z ≤ M) → Fr h₀ L h' m → News h₀ L h' news → Q (.int M t) { s with heap := h', toks := tk }) :
    wpAny (model prog w) A (call (.builtin "max") [.ref l]) Q E s := by
  have hlen := hr.length
  have key : ∀ {i v}, ys[i]? = some v → i < zs.length ∧ ∃ t, v = .int (zs.getD i 0) t := fun {i v} e => by
    have hi : i < zs.length := by rw [← hlen]; exact (List.getElem?_eq_some_iff.mp e).1
    obtain ⟨u, hu⟩ := hr.get i (zs.getD i 0) (by simp [List.getD, hi])
    exact ⟨hi, u, Option.some.inj (e.symm.trans hu)⟩
  refine max_list_on (fun i j => lexLt [zs.getD j 0] [zs.getD i 0]) hh F N hm (by omega) ?_ ?_
  · intro i j vi vj s' Q' E' hN hi hj hq
    obtain ⟨-, t, rfl⟩ := key hi
    obtain ⟨-, u, rfl⟩ := key hj
    have hq' : Q' (.bool (lexLt [zs.getD j 0] [zs.getD i 0])) s' := hq
    rw [lex_one] at hq'
    exact rich_gt_int hq'
  · intro v h' tk hv F' N'
    obtain ⟨hle, hbest⟩ := best_spec (fun k => [zs.getD k 0]) (ys.length - 1)
    obtain ⟨hi, t, rfl⟩ := key hv
    have hmem : ∀ {k : Nat}, k < zs.length → zs.getD k 0 ∈ zs := fun {k} hk => by
      rw [show zs.getD k 0 = zs[k] by simp [List.getD, hk]]
      exact List.getElem_mem hk
    refine h _ t h' tk (hmem hi) (fun z hz => ?_) F' N'
    obtain ⟨j, hj, rfl⟩ := List.mem_iff_getElem.mp hz
    have h9 := hbest j (by omega)
    rw [lex_one, decide_eq_false_iff_not] at h9
    have e : zs.getD j 0 = zs[j] := by simp [List.getD, hj]
    rw [e] at h9
    omega
end
theorem top1_ex {l : List Int} (h0 : 0 < l.length) : ∃ i, Top1 l i := by
  obtain ⟨i, hi, hm, -⟩ := best_ends h0 (fun j => l.drop j)
  exact ⟨i, hi, hm⟩
/-- what the law reckons of a beginning: its length less the greatest of the least steps -/
theorem due_max {l : List Int} {n : Nat} (hn : l.length = n) (h0 : 0 < n) {ts : List Nat} (htl : ts.length = n - 1) (hts : ∀ a, a < n - 1 → IsLocal l (a + 1) (ts.getD a 0)) {M : Int}
    (hM : M ∈ ts.map Int.ofNat ++ [1]) (hmax : ∀ z ∈ ts.map Int.ofNat ++ [1], z ≤ M) : (n : Int) - M = (bordN l n : Int) := by
  subst hn
  obtain ⟨i, hi⟩ := top1_ex h0
  obtain ⟨j, hj⟩ := top1_ex (l := neg1 l) (by rw [neg1_len]; exact h0)
  have hj1 := hj.1
  have hi1 := hi.1
  rw [neg1_len] at hj1
  have memt : ∀ a, a < l.length - 1 → Int.ofNat (ts.getD a 0) ∈ ts.map Int.ofNat ++ [1] := fun a ha => by
    refine List.mem_append_left _ (List.mem_map_of_mem ?_)
    simp [List.getD, show a < ts.length by omega]
  obtain ⟨p, hp, hpm⟩ : ∃ p, IsLocal l (max i j) p ∧ Int.ofNat p ∈ ts.map Int.ofNat ++ [1] := by
    by_cases hk : max i j = 0
    · rw [hk]
      exact ⟨1, ⟨by omega, by omega, fun q h1 h2 => by omega, fun q h1 h2 => by omega⟩, List.mem_append_right _ (.head _)⟩
    · have := hts (max i j - 1) (by omega)
      rw [show max i j - 1 + 1 = max i j by omega] at this
      exact ⟨_, this, memt _ (by omega)⟩
  have hper := crit hi hj hp.1 hp.2.2.1
  have hle : ∀ a, a < l.length - 1 → ts.getD a 0 ≤ p := fun a ha => by
    by_cases h : ts.getD a 0 ≤ p
    · exact h
    · exact absurd (per_lp hper) ((hts a ha).2.2.2 p hp.1 (by omega))
  have hb := local_border hi hj hp
  have h1 : (p : Int) ≤ M := hmax _ hpm
  have hp1 := hp.1
  have hp2 := hp.2.1
  have h2 : M ≤ (p : Int) := by
    rcases List.mem_append.mp hM with h | h
    · obtain ⟨t, ht, rfl⟩ := List.mem_map.mp h
      obtain ⟨a, ha, rfl⟩ := List.mem_iff_getElem.mp ht
      have := hle a (by omega)
      rw [show ts.getD a 0 = ts[a] by simp [List.getD, ha]] at this
      show ((ts[a] : Nat) : Int) ≤ _
      omega
    · rw [List.mem_singleton.mp h]
      omega
  rw [hb]
  omega
end Mine

namespace Mine
open PySem PySem.W PyProof.Rows
set_option maxRecDepth 100000 in
set_option maxHeartbeats 8000000 in
open_top hd for PySem.Challenge.rw_rs0250_02
end Mine

namespace Mine
open PySem PySem.W PyProof.Rows

def ovl (ns : List Int) (k : Nat) : List Int := (List.range ns.length).map fun j => if j < k then (bordN ns (j + 1) : Int) else 0
theorem ovl_length (ns : List Int) (k : Nat) : (ovl ns k).length = ns.length := by simp [ovl]
theorem ovl_get {ns : List Int} {k j : Nat} (h : j < k) (h2 : k ≤ ns.length) : (ovl ns k).getD j 0 = (bordN ns (j + 1) : Int) := by
  simp [ovl, List.getD, show j < ns.length by omega, h]
theorem ovl_set {ns : List Int} {k : Nat} (h : k < ns.length) : (ovl ns k).set k (bordN ns (k + 1) : Int) = ovl ns (k + 1) := by
  apply List.ext_getElem
  · simp [ovl]
  · intro i h1 h2
    simp [ovl, List.getElem_set]
    by_cases e : k = i
    · subst e; simp
    · simp only [e, if_false]
      by_cases e2 : i < k
      · simp [e2, show i < k + 1 by omega]
      · simp [e2, show ¬ i < k + 1 by omega]
theorem ovl_all (ns : List Int) : ovl ns ns.length = tab ns := by
  simp only [ovl, tab]
  apply List.map_congr_left
  intro a ha
  simp only [List.mem_range] at ha
  simp [ha]
theorem ovl_one (ns : List Int) : ovl ns 1 = List.replicate ns.length 0 := by
  apply List.ext_getElem
  · simp [ovl]
  · intro i h1 h2
    simp only [ovl, List.getElem_map, List.getElem_range, List.getElem_replicate]
    by_cases e : i < 1
    · have : i = 0 := by omega
      subst this
      simp [tab_one]
    · simp [e]

/-- what the outer loop keeps -/
def OvJ (D : Addr) (news : List (Addr × Obj)) (pv : Value) (ns : List Int) (i : Nat) (m : Str → Option Value) (nx : List (Addr × Obj)) : Prop :=
  m (Str.ofString "table") = some (.ref D) ∧ m (Str.ofString "prefix") = some pv ∧ ∃ vs c, nx = (D, listOf vs.toArray c) :: news ∧ IntsAre vs (ovl ns (i + 1))

/-- what the inner loop keeps -/
def OwJ (g1 : Heap) (L1 : Addr) (news : List (Addr × Obj)) (s : Shared) (pv : Value) (D : Addr) (ns : List Int) (i : Nat) (n : Nat) (s' : Shared) : Prop :=
  ∃ (b : Nat) (t ti : Tok) (m : Str → Option Value) (h : Heap) (tk : Nat), s' = { s with heap := h, toks := tk } ∧ b = n ∧ Inv ns (i + 1) b ∧ m (Str.ofString "idx") = some (.int b t) ∧ m (Str.ofString "i") = some (.int (1 + (i : Int)) ti) ∧ m (Str.ofString "table") = some (.ref D) ∧ m (Str.ofString "prefix") = some pv ∧ Fr g1 L1 h m ∧ News g1 L1 h news

set_option maxRecDepth 100000 in
set_option maxHeartbeats 8000000 in
theorem overlap (w : World) (pv : Value) (ns : List Int) (It : Int → Value → Prop) (news : List (Addr × Obj)) (P : Pref Challenge.rw_rs0250_02.prog w news pv ns It) (hn : ns.length ≤ 12) :
    Con Challenge.rw_rs0250_02.prog w (hd.heap_39 w.params) hd.view_39 21 1 8 [pv] news (fun r tl => ∃ x vs c, r = .ref x ∧ tl = [(x, listOf vs.toArray c)] ∧ IntsAre vs (tab ns)) := by
  intro loose mean mg mb dp un gd cn cs a ccd cl outer A₀ base h₀ L m s Q E B F X N T hk hd hu hret
  w_top off; revert X; k_fill; intro X
  refine wpAny_call ?_
  k_dflt ktr_enter
  rename_i g1 L1 h1 FG1 F1 N1 B1 X1 T1
  obtain ⟨m1, hm1, F2⟩ : ∃ m1 : Str → Option Value, m1 (Str.ofString "prefix") = some pv ∧ Fr g1 L1 h1 m1 := ⟨_, rfl, F1⟩
  clear F1
  have F1 := fr_at F2 hm1
  clear F2
  generalize hW : Stmt.For _ _ _ _ _ = W
  k_steps
  (rename Fr _ _ _ _ => F1); (rename News _ _ _ _ => N1)
  refine P.len (fun p hp => N1 p (.tail _ hp)) fun t tk => ?_
  k_steps
  subst hW
  (rename Fr _ _ _ _ => F3); (rename News _ _ _ _ => N3)
  with_unfolding_all refine For_invVF F3 rfl rfl ?_
  generalize hP : (fun xv s₁ => wpAny _ _ (pyIter xv) _ _ s₁) = PI
  k_steps
  refine P.len (fun p hp => N3 p (.tail _ (.tail _ hp))) fun t tk => ?_
  k_steps
  subst hP
  rename IsRange _ _ _ _ _ _ _ _ => hr
  rename Fr _ _ _ _ => F4
  rename News _ _ _ _ => N4
  rename ∀ p ∈ news, _ => l1lt
  rename IntsAre _ _ => ii
  rename (_ ∧ AllLt _ _) => Dlt
  show wpAny _ _ (pyIter _) _ _ _
  generalize hvs : (List.replicate (↑ns.length : Int).toNat [Value.int 0 _]).flatten = vs at N4 ii
  have ii' : IntsAre vs (ovl ns 1) := by
    rw [ovl_one]
    simpa using ii
  refine range_inv (n := ns.length - 1) (OvJ _ news pv ns) rfl hr (small_up hn) range_size F4 (news := (_, listOf vs.toArray 0) :: news) (fun p hp => N4 p ?_) ⟨rfl, rfl, vs, 0, rfl, ii'⟩ ?_ ?_
  · rcases List.mem_cons.mp hp with rfl | hp
    · exact .head _
    · exact .tail _ (.tail _ hp)
  · rintro i t m₂ nx h tk own hi hadr hoff ⟨m_t, m_p, vs, c, rfl, iv⟩ F5 N5
    have F6 := fr_at (fr_at F5 (k := Str.ofString "table") (v := .ref _) m_t) (k := Str.ofString "prefix") (v := pv) m_p
    change Fr g1 L1 h _ at F6
    change News g1 L1 h _ at N5
    clear F5
    have hil := ovl_length ns (i + 1)
    generalize hW : Stmt.While _ _ _ _ = W
    k_steps
    subst hW
    rename Fr _ _ _ _ => F7
    rename News _ _ _ _ => N7
    clear hvs ii ii' hr
    have ei : (ovl ns (i + 1)).getD (1 + (i : Int) - 1).toNat 0 = (bordN ns (i + 1) : Int) := by
      rw [show (1 + (i : Int) - 1).toNat = i by omega, ovl_get (by omega) (by omega)]
    rw [ei] at F7
    refine whl_ind (OwJ g1 L1 ((_, listOf vs.toArray c) :: news ++ own) s pv _ ns i) (by with_unfolding_all passes_own) ?_ (bordN ns (i + 1)) ⟨bordN ns (i + 1), _, _, _, _, _, rfl, rfl, inv_start (by omega), rfl, rfl, rfl, rfl, F7, N7⟩
    · rintro n s' ⟨b, tb, ti, m₃, h, tk, rfl, rfl, inv, m_x, m_i, m_t, m_p, F5, N5⟩
      have F6 := fr_at (fr_at (fr_at (fr_at F5 (k := Str.ofString "table") (v := .ref _) m_t) (k := Str.ofString "prefix") (v := pv) m_p) (k := Str.ofString "i") (v := .int _ _) m_i) (k := Str.ofString "idx") (v := .int _ _) m_x
      have hbi := inv_lt inv
      clear F5 m_x m_i m_t m_p
      k_steps
      refine P.item (fun p hp => N5 p (List.mem_append_left _ (.tail _ hp))) (by omega) (by omega) fun v1 tk1 hv1 => ?_
      k_steps
      refine P.item (fun p hp => N5 p (List.mem_append_left _ (.tail _ hp))) (by omega) (by omega) fun v2 tk2 hv2 => ?_
      k_steps
      refine P.ne hv1 hv2 ?_
      have eki : (1 + (i : Int)).toNat = i + 1 := by omega
      have ekb : ((b : Nat) : Int).toNat = b := rfl
      rw [eki, ekb]
      have hap : ∀ p ∈ news ++ own, p.1 ≠ _ := fun p hp => (List.mem_append.mp hp).elim (allLt_ne Dlt.2 p) fun hp => hoff p hp _ (.head _)
      k_steps
      · have hne : ns.getD (i + 1) 0 ≠ ns.getD b 0 := by
          have h9 : (ns.getD (i + 1) 0 != ns.getD b 0) = true := by assumption
          simpa using h9
        have hb0 : b = 0 := by omega
        subst hb0
        have hbo := inv_none inv hne
        rename Fr _ _ _ _ => F8
        rename News _ _ _ _ => N8
        refine ksa_set F8 N8 (.head hap) iv (by omega) (by omega) (by omega) fun h' F' N' hi' hl' _ => ?_
        rw [eki] at hi' N'
        have hset := ovl_set (ns := ns) (k := i + 1) (by omega)
        rw [hbo] at hset
        rw [show ((0 : Nat) : Int) = 0 from rfl] at hset
        rw [hset] at hi'
        dsimp only [WPost]
        k_steps
        exact InvEndN.intro (nx := (_, listOf _ c) :: news) F' N' ⟨rfl, rfl, _, _, rfl, hi'⟩ hadr (fun p hp => by rcases List.mem_cons.mp hp with rfl | hp; exact .head _; exact .tail _ (List.mem_append_left _ hp)) (fun p hp => .tail _ (List.mem_append_right _ hp))
      · have hne : ns.getD (i + 1) 0 ≠ ns.getD b 0 := by
          have h9 : (ns.getD (i + 1) 0 != ns.getD b 0) = true := by assumption
          simpa using h9
        have h0 : 0 < b := by omega
        rename Fr _ _ _ _ => F8
        rename News _ _ _ _ => N8
        have hbb := bordN_lt (ns := ns) h0
        have e8 : (ovl ns (i + 1)).getD ((b : Int) - 1).toNat 0 = (bordN ns b : Int) := by
          rw [show ((b : Int) - 1).toNat = b - 1 by omega, ovl_get (by omega) (by omega), show b - 1 + 1 = b by omega]
        rw [e8] at F8
        exact ⟨bordN ns b, hbb, bordN ns b, _, _, _, _, _, rfl, rfl, inv_step inv hne h0, rfl, rfl, rfl, rfl, F8, N8⟩
      · have heq : ns.getD (i + 1) 0 = ns.getD b 0 := by
          have h9 : (ns.getD (i + 1) 0 != ns.getD b 0) = false := by assumption
          simpa using h9
        have hbo := inv_found inv heq
        rename Fr _ _ _ _ => F8
        rename News _ _ _ _ => N8
        refine ksa_set F8 N8 (.head hap) iv (by omega) (by omega) (by omega) fun h' F' N' hi' hl' _ => ?_
        rw [eki] at hi' N'
        have hset := ovl_set (ns := ns) (k := i + 1) (by omega)
        rw [hbo] at hset
        rw [show ((b + 1 : Nat) : Int) = (b : Int) + 1 from rfl] at hset
        rw [hset] at hi'
        dsimp only [WPost]
        k_steps
        exact InvEndN.intro (nx := (_, listOf _ c) :: news) F' N' ⟨rfl, rfl, _, _, rfl, hi'⟩ hadr (fun p hp => by rcases List.mem_cons.mp hp with rfl | hp; exact .head _; exact .tail _ (List.mem_append_left _ hp)) (fun p hp => .tail _ (List.mem_append_right _ hp))
  · rintro m₂ nx h tk ⟨m_t, m_p, vs, c, rfl, iv⟩ F5 N5
    have F6 := fr_at (fr_at F5 (k := Str.ofString "table") (v := .ref _) m_t) (k := Str.ofString "prefix") (v := pv) m_p
    change Fr g1 L1 h _ at F6
    change News g1 L1 h _ at N5
    clear F5 hvs ii ii' hr
    have iv' : IntsAre vs (tab ns) := by
      by_cases h0 : ns.length = 0
      · have e0 : ns = [] := List.length_eq_zero_iff.mp h0
        subst e0
        exact iv
      · rw [show ns.length - 1 + 1 = ns.length by omega, ovl_all] at iv
        exact iv
    k_steps
    exact hret _ [(_, listOf vs.toArray c)] _ _ ⟨_, vs, c, rfl, rfl, iv'⟩ (by assumption) (by assumption) (fun q hq => by rw [List.mem_singleton.mp hq]; exact off1_lt Dlt.2)
end Mine

namespace Mine
local macro_rules | `(tactic| walk_at "PAD S2 0") => `(tactic| skip)
open PySem PySem.W PyProof.Rows
local macro_rules | `(tactic| walk_at "call builtin:len") => `(tactic| (k_here; refine len_txt (by omega) (fun t9 k9 => ?_); try dsimp only))
local macro_rules | `(tactic| walk_at "subscriptTail Name Name str int") => `(tactic| (k_here; refine item_txt (by omega) (by omega) (by omega) (fun t9 k9 => ?_); try dsimp only))
local macro_rules | `(tactic| walk_at "eval ListComp") => `(tactic| (k_here; k_dflt (refine LCt.ListComp_T (F₀ := by k_asm) (by with_unfolding_all rfl) (by decide) (by rfl) (by decide) (by rfl) ?_)))
local macro_rules | `(tactic| walk_at "CompSrcT") => `(tactic| refine halt ?_)
local macro_rules | `(tactic| walk_at "CompEnd") => `(tactic| refine halt ?_)
local macro_rules | `(tactic| walk_at "FinE") => `(tactic| refine halt ?_)
local macro_rules | `(tactic| walk_at "subscriptTail Name BinOp str int") => `(tactic| (k_here; refine item_txt (by omega) (by omega) (by omega) (fun t9 k9 => ?_); try dsimp only))
local macro_rules | `(tactic| walk_at "compareOp") => `(tactic| (k_here; refine ne_one ?_))
theorem ints_getD {cs : List Nat} {j : Nat} : (cs.map Int.ofNat).getD j 0 = Int.ofNat (cs.getD j 0) := by
  by_cases h : j < cs.length <;> simp [List.getD, h]
theorem lp_txt {cs : List Nat} {k p : Nat} : Lp (cs.map Int.ofNat) k p ↔ ∀ q, k - p ≤ q → q < k - p + (min k (cs.length - p) - (k - p)) → cs.getD q 0 = cs.getD (q + p) 0 := by
  unfold Lp
  simp only [ints_getD, List.length_map]
  constructor
  · intro h q h1 h2
    exact Int.ofNat.inj (h q h1 (by omega))
  · intro h q h1 h2
    rw [h q h1 (by omega)]
theorem str1_ne (a b : Nat) : ((⟨#[a]⟩ : PySem.Str) != ⟨#[b]⟩) = (a != b) := by
  by_cases hkj : a = b
  · subst hkj; simp
  · have h2 : (⟨#[a]⟩ : PySem.Str) ≠ ⟨#[b]⟩ := fun q => hkj (by simpa using congrArg PySem.Str.cps q)
    rw [bne_iff_ne.mpr hkj, bne_iff_ne.mpr h2]
set_option maxRecDepth 100000 in
set_option maxHeartbeats 8000000 in
theorem lstep (w : World) (news : List (Addr × Obj)) (cs : List Nat) (tx : Tok) (k : Nat) (tp : Tok) (hn : cs.length ≤ 10) (hk : k < cs.length) :
    Con Challenge.rw_rs0250_02.prog w (hd.heap_39 w.params) hd.view_39 33 1 100 [.str ⟨cs.toArray⟩ tx, .int k tp] news (fun r tl => ∃ t p, r = .int (p : Nat) t ∧ IsLocal (cs.map Int.ofNat) k p ∧ tl = []) := by
  w_top off; k_fill
  k_dflt (refine' enter (sel := []) ?hs ?ho ?hcd ?hb ?hk ?hn ?_ ?h1 ?c1 ?c2 ?c3; (case ho => k_is); (case hcd => k_is); (case hb => exact fun _ => BindsTo.of_eq rfl); (case hk => exact rfl); (case hn => decide +kernel); (case hs => exact fun q hq => nomatch hq); (case h1 => decide); (case c1 => exact rfl); (case c2 => exact rfl); (case c3 => exact rfl))
  intro loose mean mg mb dp un gd cn cs' a ccd cl outer base g L L' h₁ cells tk s E hck hdp hun F N Y B X T l1
  (try dsimp only)
  k_fold
  k_lt l1
  k_cells Y
  rename_i oS oT dS dT
  change oS.data = .cell none at dS
  change oT.data = .cell (some (.str ⟨cs.toArray⟩ tx)) at dT
  simp only [List.cons_append, List.nil_append] at N
  obtain ⟨m1, hm1, F1⟩ : ∃ m1 : Str → Option Value, m1 (Str.ofString "place") = some (.int k tp) ∧ Fr g L' h₁ m1 := ⟨_, rfl, F⟩
  clear F
  have F2 := fr_at F1 hm1
  clear F1
  generalize hW : Stmt.For _ _ _ _ _ = W
  k_steps
  subst hW
  rename Fr _ _ _ _ => F3
  rename News _ _ _ _ => N3
  refine for_range_cell (h₀ := g) (c := L' + 1 + 1) rfl rfl rfl ?_
  generalize hP : (fun (xv : Value) (s₁ : Shared) => ∃ _, _) = PI
  k_steps
  subst hP
  rename IsRange _ _ _ _ _ _ _ _ => hr
  rename Fr _ _ _ _ => F4
  rename News _ _ _ _ => N4
  have hsm : Builtin.Range.small 1 ((cs.length : Int) + 1) 1 = true := by
    have := small_up (n := cs.length + 1) (by omega)
    rwa [Int.natCast_add] at this
  have hrs : Builtin.Range.rangeSize 1 ((cs.length : Int) + 1) 1 = (cs.length : Int) := by
    have := range_size (n := cs.length + 1)
    rwa [Int.natCast_add] at this
  refine ⟨_, _, _, _, _, _, cs.length, _, oS, none, [(L' + 1, oT)], fun i m nx => nx = [(L' + 1, oT)] ∧ m (Str.ofString "place") = some (.int k tp) ∧ (∀ q, 0 < q → q < i + 1 → ¬ Lp (cs.map Int.ofNat) k q), rfl, rfl, hr, hsm, hrs, F4, N4, dS, fun p hp => by rw [List.mem_singleton.mp hp]; exact Nat.ne_of_lt (Nat.lt_succ_self _), ⟨rfl, rfl, fun q h1 h2 => by omega⟩, ?_, ?_⟩
  · rintro i ti m₂ nx I oI oc h tk hi ⟨rfl, m_p, m_b⟩ dc hne hIc F5 N5
    have F6 := fr_at F5 m_p
    change Fr g L' h _ at F6
    change News g L' h _ at N5
    clear F5 F4 N4 hr
    have hne1 := hne _ (.head _)
    k_steps
    refine Halt.go ?_
    have eb : (if (k : Int) - (1 + (i : Int)) > 0 then (k : Int) - (1 + (i : Int)) else 0) = ((k - (i + 1) : Nat) : Int) := by split <;> omega
    have ee : (if (cs.length : Int) - (1 + (i : Int)) < (k : Int) then (cs.length : Int) - (1 + (i : Int)) else (k : Int)) = ((min k (cs.length - (i + 1)) : Nat) : Int) := by split <;> omega
    rename IsRange _ _ _ _ _ _ _ _ => hr
    rename Fr _ _ _ _ => F7
    rename News _ _ _ _ => N7
    rw [eb, ee] at hr
    clear eb ee
    obtain ⟨bg, hbg⟩ : ∃ bg : Nat, bg = k - (i + 1) := ⟨_, rfl⟩
    obtain ⟨en, hen⟩ : ∃ en : Nat, en = min k (cs.length - (i + 1)) := ⟨_, rfl⟩
    rw [← hbg, ← hen] at hr
    refine LCt.CompSrcT.range (n := en - bg) rfl F7 N7 hr (small_one (by omega) (by omega) (by omega) (by omega)) (by rw [rangeSize_nat]; omega) (by rw [sizeLine_eq]; omega) fun g' => ?_
    dsimp only
    refine comp_invT (fun j ys nx => nx = [(L' + 1 + 1, oc), (I, oI), (L' + 1, oT)] ∧ ∃ zs : List Int, IntsAre ys zs ∧ zs.length ≤ j ∧ (zs = [] ↔ ∀ q, bg ≤ q → q < bg + j → cs.getD q 0 = cs.getD (q + (i + 1)) 0)) (en - bg) ?_ ?_ _ _ _ _ (by omega) ⟨rfl, [], .nil, Nat.le_refl _, ⟨fun _ q h1 h2 => by omega, fun _ => rfl⟩⟩
    · --BEGIN
      rintro j ys nx v I1 oI1 C1 oC1 D1 m₃ h tk E' hj ⟨rfl, zs, izs, hzl, hys⟩ ⟨t, rfl⟩ hC hx F8 N8 off ne
      clear F7 N7 hr
      k_steps
      all_goals refine Halt.go ?_
      all_goals (
        rename Fr _ _ _ _ => F9
        rename News _ _ _ _ => N9
        rename (PySem.Str.mk _ != PySem.Str.mk _) = _ => hab
        rw [str1_ne, show ((bg : Int) + (j : Int)).toNat = bg + j by omega, show ((bg : Int) + (j : Int) + (1 + (i : Int))).toNat = bg + j + (i + 1) by omega] at hab)
      · refine comp_end_none F9 N9 (fun p hp => hp) off trivial ⟨rfl, zs ++ [_], izs.append (.cons _ _ .nil), by simp; omega, ⟨fun e => by simp at e, fun e => ?_⟩⟩
        rw [e (bg + j) (by omega) (by omega)] at hab
        simp at hab
      · refine comp_end_none F9 N9 (fun p hp => hp) off trivial ⟨rfl, zs, izs, by omega, ⟨fun e q h1 h2 => ?_, fun e => hys.mpr fun q h1 h2 => e q h1 (by omega)⟩⟩
        by_cases hq : q = bg + j
        · rw [hq]
          simpa using hab
        · exact hys.mp e q h1 (by omega)
    · rintro ys nx ⟨rfl, zs, izs, hzl, hys⟩
      intro D h tk F8 N8 off
      clear F7 N7 hr
      have in0 : IntsAre [] [] := .nil
      k_steps
      · have hlp : Lp (cs.map Int.ofNat) k (i + 1) := by
          rename decide (zs = []) = true => hz
          replace hz := of_decide_eq_true hz
          rw [hbg, hen] at hys
          exact lp_txt.mpr (hys.mp hz)
        rename Fr _ _ _ _ => F9
        refine ⟨_, [], _, _, rfl, F9, fun p hp => (nomatch hp), fun q hq => (nomatch hq), _, i + 1, by rw [show ((i + 1 : Nat) : Int) = 1 + (i : Int) by omega], ⟨by omega, by rw [List.length_map]; omega, hlp, fun q h1 h2 => m_b q h1 h2⟩, rfl⟩
      · have hlp : ¬ Lp (cs.map Int.ofNat) k (i + 1) := fun hq => by
          rename decide (zs = []) = false => hz
          replace hz := of_decide_eq_false hz
          rw [hbg, hen] at hys
          exact hz (hys.mpr (lp_txt.mp hq))
        rename Fr _ _ _ _ => F9
        rename News _ _ _ _ => N9
        exact ⟨_, _, _, [(L' + 1, oT)], oc, _, rfl, F9, fun p hp => N9 p (by simp only [List.mem_cons, List.not_mem_nil, or_false] at hp; rcases hp with rfl | rfl | rfl <;> k_mem), hne, dc, rfl, rfl, fun q h1 h2 => if h3 : q = i + 1 then h3 ▸ hlp else m_b q h1 (by omega)⟩
  · rintro m₂ nx oc v h tk ⟨rfl, m_p, m_b⟩ dc hne F5 N5
    exact absurd (per_lp (fun j hj => by rw [List.length_map] at hj; omega)) (m_b cs.length (by omega) (by omega))
end Mine

namespace Mine
local macro_rules | `(tactic| walk_at "PAD E2 0") => `(tactic| skip)
local macro_rules | `(tactic| walk_at "PAD E2 1") => `(tactic| skip)
local macro_rules | `(tactic| walk_at "PAD E2 2") => `(tactic| skip)
local macro_rules | `(tactic| walk_at "PAD E2 3") => `(tactic| skip)
local macro_rules | `(tactic| walk_at "PAD E2 4") => `(tactic| skip)
local macro_rules | `(tactic| walk_at "PAD E2 5") => `(tactic| skip)
local macro_rules | `(tactic| walk_at "PAD E2 6") => `(tactic| skip)
local macro_rules | `(tactic| walk_at "PAD E2 7") => `(tactic| skip)
local macro_rules | `(tactic| walk_at "PAD E2 8") => `(tactic| skip)
local macro_rules | `(tactic| walk_at "PAD E2 9") => `(tactic| skip)
open PySem PySem.W PyProof.Rows
local macro_rules | `(tactic| walk_at "call builtin:len") => `(tactic| (k_here; refine len_txt (by omega) (fun t9 k9 => ?_); try dsimp only))
local macro_rules | `(tactic| walk_at "CompSrc") => `(tactic| refine halt ?_)
local macro_rules | `(tactic| walk_at "CompEnd") => `(tactic| refine halt ?_)
local macro_rules | `(tactic| walk_at "FinE") => `(tactic| refine halt ?_)
local macro_rules | `(tactic| walk_at "call builtin:max") => `(tactic| refine halt ?_)
set_option maxRecDepth 100000 in
set_option maxHeartbeats 8000000 in
theorem gend (w : World) (news : List (Addr × Obj)) (cs : List Nat) (tx : Tok) (hn : cs.length ≤ 10) (hpos : 0 < cs.length) :
    Con Challenge.rw_rs0250_02.prog w (hd.heap_39 w.params) hd.view_39 38 1 100 [.str ⟨cs.toArray⟩ tx] news (fun r tl => ∃ t i, r = .str ⟨(cs.drop i).toArray⟩ t ∧ Top1 (cs.map Int.ofNat) i ∧ tl = []) := by
  w_top off; k_fill
  k_dflt (refine' enter (sel := []) ?hs ?ho ?hcd ?hb ?hk ?hn ?_ ?h1 ?c1 ?c2 ?c3; (case ho => k_is); (case hcd => k_is); (case hb => exact fun _ => BindsTo.of_eq rfl); (case hk => exact rfl); (case hn => decide +kernel); (case hs => exact fun q hq => nomatch hq); (case h1 => decide); (case c1 => exact rfl); (case c2 => exact rfl); (case c3 => exact rfl))
  intro loose mean mg mb dp un gd cn cs' a ccd cl outer base g L L' h₁ cells tk s E hck hdp hun F N Y B X T l1
  (try dsimp only)
  k_fold
  k_lt l1
  k_cells Y
  rename_i oT dT
  change oT.data = .cell (some (.str ⟨cs.toArray⟩ tx)) at dT
  simp only [List.cons_append, List.nil_append] at N
  obtain ⟨m1, F1⟩ : ∃ m1 : Str → Option Value, Fr g L' h₁ m1 := ⟨_, F⟩
  clear F
  k_steps
  refine Halt.go ?_
  rename IsRange _ _ _ _ _ _ _ _ => hr
  rename Fr _ _ _ _ => F3
  rename News _ _ _ _ => N3
  refine LCg.CompSrc.range (n := cs.length) rfl F3 N3 hr (small_up0 (by omega)) range_size0 (by rw [sizeLine_eq]; omega) fun g' => ?_
  dsimp only
  refine comp_inv (fun i ys nx => nx = [(L' + 1, oT)] ∧ TxtsAre ys ((List.range i).map fun j => cs.drop j)) cs.length ?_ ?_ _ _ _ _ (by omega) ⟨rfl, trivial⟩
  · rintro i ys nx v I oI C oC D m₂ h tk E' hi ⟨rfl, hys⟩ ⟨t, rfl⟩ hC hx F4 N4 off ne
    clear F3 N3 hr
    k_steps
    refine Halt.go ?_
    rename Fr _ _ _ _ => F9
    rename News _ _ _ _ => N9
    rw [slice_from (by omega) (by omega), show ((0 : Int) + (i : Int)).toNat = i by omega]
    refine comp_end_none F9 N9 (fun p hp => hp) off trivial ⟨rfl, ?_⟩
    rw [List.range_succ, List.map_append]
    exact hys.snoc
  · rintro ys nx ⟨rfl, hys⟩
    intro D h tk F4 N4 off
    clear F3 N3 hr
    k_steps
    refine Halt.go ?_
    refine max_ends rfl F4 N4 (.head _) hys hpos fun i t h5 tk5 htop F5 N5 => ?_
    k_steps
    exact ⟨_, [], _, _, rfl, F5, fun p hp => (nomatch hp), fun q hq => (nomatch hq), _, i, rfl, htop, rfl⟩
end Mine

namespace Mine
local macro_rules | `(tactic| walk_at "PAD P3 0") => `(tactic| skip)
local macro_rules | `(tactic| walk_at "PAD P3 1") => `(tactic| skip)
local macro_rules | `(tactic| walk_at "PAD P3 2") => `(tactic| skip)
local macro_rules | `(tactic| walk_at "PAD P3 3") => `(tactic| skip)
local macro_rules | `(tactic| walk_at "PAD P3 4") => `(tactic| skip)
local macro_rules | `(tactic| walk_at "PAD P3 5") => `(tactic| skip)
local macro_rules | `(tactic| walk_at "PAD P3 6") => `(tactic| skip)
local macro_rules | `(tactic| walk_at "PAD P3 7") => `(tactic| skip)
local macro_rules | `(tactic| walk_at "PAD P3 8") => `(tactic| skip)
local macro_rules | `(tactic| walk_at "PAD P3 9") => `(tactic| skip)
local macro_rules | `(tactic| walk_at "PAD P3 10") => `(tactic| skip)
local macro_rules | `(tactic| walk_at "PAD P3 11") => `(tactic| skip)
local macro_rules | `(tactic| walk_at "PAD P3 12") => `(tactic| skip)
local macro_rules | `(tactic| walk_at "PAD P3 13") => `(tactic| skip)
local macro_rules | `(tactic| walk_at "PAD P3 14") => `(tactic| skip)
local macro_rules | `(tactic| walk_at "PAD P3 15") => `(tactic| skip)
open PySem PySem.W PyProof.Rows
local macro_rules | `(tactic| walk_at "call builtin:len") => `(tactic| (k_here; refine len_txt (by omega) (fun t9 k9 => ?_); try dsimp only))
local macro_rules | `(tactic| walk_at "eval ListComp") => `(tactic| (k_here; k_dflt (refine ListComp_S (F₀ := by k_asm) (by with_unfolding_all rfl) (by decide) (by rfl) (by decide) (by rfl) ?_)))
local macro_rules | `(tactic| walk_at "CompSrcS") => `(tactic| refine halt ?_)
local macro_rules | `(tactic| walk_at "CompEnd") => `(tactic| refine halt ?_)
local macro_rules | `(tactic| walk_at "FinE") => `(tactic| refine halt ?_)
local macro_rules | `(tactic| walk_at "call ref") => `(tactic| refine halt ?_)
theorem lex_shift (d : Int) : ∀ a b : List Int, lexLt (a.map fun n => n + d) (b.map fun n => n + d) = lexLt a b
  | [], [] => rfl
  | [], _ :: _ => rfl
  | _ :: _, [] => rfl
  | x :: xs, y :: ys => by
    have ih := lex_shift d xs ys
    show (if x + d = y + d then lexLt (xs.map fun n => n + d) (ys.map fun n => n + d) else decide (x + d < y + d)) = (if x = y then lexLt xs ys else decide (x < y))
    rw [ih]
    by_cases h : x = y
    · rw [if_pos h, if_pos (by omega)]
    · rw [if_neg h, if_neg (by omega)]
      congr 1
      apply propext
      omega
theorem top1_shift {l : List Int} {d : Int} {i : Nat} (h : Top1 (l.map fun n => n + d) i) : Top1 l i := by
  obtain ⟨h1, h2⟩ := h
  rw [List.length_map] at h1 h2
  refine ⟨h1, fun j hj => ?_⟩
  have := h2 j hj
  rwa [← List.map_drop, ← List.map_drop, lex_shift] at this
theorem turned_ints {cs : List Nat} (hab : ∀ c ∈ cs, 97 ≤ c ∧ c ≤ 99) : (cs.map fun c => 196 - c).map Int.ofNat = (neg1 (cs.map Int.ofNat)).map fun n => n + 196 := by
  unfold neg1
  rw [List.map_map, List.map_map, List.map_map]
  refine List.map_congr_left fun c hc => ?_
  have := hab c hc
  show ((196 - c : Nat) : Int) = -(c : Int) + 196
  omega
set_option maxRecDepth 100000 in
set_option maxHeartbeats 8000000 in
theorem oneplace (w : World) (news : List (Addr × Obj)) (cs : List Nat) (tx : Tok) (hn : cs.length ≤ 10) (hpos : 0 < cs.length) (hab : ∀ c ∈ cs, 97 ≤ c ∧ c ≤ 99) :
    Con Challenge.rw_rs0250_02.prog w (hd.heap_39 w.params) hd.view_39 43 2 200 [.str ⟨cs.toArray⟩ tx] news (fun r tl => ∃ t k, r = .int (k : Nat) t ∧ (∃ i j, Top1 (cs.map Int.ofNat) i ∧ Top1 (neg1 (cs.map Int.ofNat)) j ∧ k = max i j) ∧ tl = []) := by
  w_top off; k_fill
  k_dflt (refine' enter (sel := []) ?hs ?ho ?hcd ?hb ?hk ?hn ?_ ?h1 ?c1 ?c2 ?c3; (case ho => k_is); (case hcd => k_is); (case hb => exact fun _ => BindsTo.of_eq rfl); (case hk => exact rfl); (case hn => decide +kernel); (case hs => exact fun q hq => nomatch hq); (case h1 => decide); (case c1 => exact rfl); (case c2 => exact rfl); (case c3 => exact rfl))
  intro loose mean mg mb dp un gd cn cs' a ccd cl outer base g L L' h₁ cells tk s E hck hdp hun F N Y B X T l1
  (try dsimp only)
  k_fold
  k_lt l1
  cases Y
  simp only [List.cons_append, List.nil_append] at N
  obtain ⟨m1, hm1, F1⟩ : ∃ m1 : Str → Option Value, m1 (Str.ofString "text") = some (.str ⟨cs.toArray⟩ tx) ∧ Fr g L' h₁ m1 := ⟨_, rfl, F⟩
  clear F
  have F2 := fr_at F1 hm1
  clear F1
  k_steps
  refine Halt.go ?_
  rename Fr _ _ _ _ => F3
  rename News _ _ _ _ => N3
  refine ⟨cs, tx, [], rfl, rfl, F3, N3, by omega, fun c hc => by have := hab c hc; omega, fun g' => ?_⟩
  dsimp only
  refine comp_inv (fun i zs nx => nx = [] ∧ StrsAre zs ((cs.take i).map fun c => (⟨#[196 - c]⟩ : PySem.Str))) cs.length ?_ ?_ _ _ _ _ (by omega) ⟨rfl, .nil⟩
  · rintro i zs nx v I oI C oC D m₂ h tk E' hi ⟨rfl, izs⟩ ⟨t, rfl⟩ hC hx F4 N4 off ne
    clear F3 N3
    have hc := hab (cs.getD i 0) (by simp [List.getD, hi])
    generalize hcc : cs.getD i 0 = c at hx hc
    k_steps
    refine Halt.go ?_
    rename Fr _ _ _ _ => F9
    rename News _ _ _ _ => N9
    refine comp_end_none F9 N9 (fun p hp => hp) off trivial ⟨rfl, ?_⟩
    rw [show ((196 : Int) - (c : Int)).toNat = 196 - c by omega, List.take_add_one, List.getElem?_eq_getElem hi, List.map_append]
    have hcc' : cs[i] = c := by simpa [List.getD, hi] using hcc
    rw [hcc']
    exact izs.append' (.cons _ _ .nil)
  · rintro zs nx ⟨rfl, izs⟩
    intro D h tk F4 N4 off
    clear F3 N3
    rw [List.take_length] at izs
    have car := izs.carried
    rw [List.map_map] at car
    have ej : (Txt.join (Str.ofString "") (cs.map fun c => (⟨#[196 - c]⟩ : PySem.Str))) = ⟨(cs.map fun c => 196 - c).toArray⟩ := by
      rw [← join_ones_cps, List.map_map]
      rfl
    k_steps
    refine Halt.go ?_
    rename Fr _ _ _ _ => F5
    rw [ej] at F5
    refine con_use (gend w [] cs tx hn hpos) B F5 X (fun p hp => nomatch hp) T rfl (by show dp + 1 + 1 < recursionLimit; omega) (by show un + 3 + 100 < cLine; omega) ?_
    rintro r9 tl9 h9 tk9 ⟨t1, i1, rfl, htop1, rfl⟩ F6 N6 -
    clear F5 izs
    have hz1 : (cs.drop i1).length = cs.length - i1 := List.length_drop
    have hi1 := htop1.1
    k_steps
    refine Halt.go ?_
    rename Fr _ _ _ _ => F7
    rw [List.length_map] at hi1
    refine con_use (gend w [] (cs.map fun c => 196 - c) _ (by rw [List.length_map]; exact hn) (by rw [List.length_map]; exact hpos)) B F7 X (fun p hp => nomatch hp) T rfl (by show dp + 1 + 1 < recursionLimit; omega) (by show un + 3 + 100 < cLine; omega) ?_
    rintro r9 tl9 h9 tk9 ⟨t2, i2, rfl, htop2, rfl⟩ F8 N8 -
    have hi2 := htop2.1
    rw [List.length_map, List.length_map] at hi2
    have hz2 : ((cs.map fun c => 196 - c).drop i2).length = cs.length - i2 := by rw [List.length_drop, List.length_map]
    k_steps
    rename Fr _ _ _ _ => F9
    have hv : ((cs.length : Int) - if (((cs.map fun c => 196 - c).drop i2).length : Int) < ((cs.drop i1).length : Int) then (((cs.map fun c => 196 - c).drop i2).length : Int) else ((cs.drop i1).length : Int)) = ((max i1 i2 : Nat) : Int) := by
      rw [hz1, hz2]
      split <;> omega
    rw [hv]
    rw [turned_ints hab] at htop2
    exact ⟨_, [], _, _, rfl, F9, fun p hp => (nomatch hp), fun q hq => (nomatch hq), _, max i1 i2, rfl, ⟨i1, i2, htop1, top1_shift htop2, rfl⟩, rfl⟩
end Mine

namespace Mine
local macro_rules | `(tactic| walk_at "PAD X2 0") => `(tactic| skip)
local macro_rules | `(tactic| walk_at "PAD X2 1") => `(tactic| skip)
local macro_rules | `(tactic| walk_at "PAD X2 2") => `(tactic| skip)
local macro_rules | `(tactic| walk_at "PAD X2 3") => `(tactic| skip)
local macro_rules | `(tactic| walk_at "PAD X2 4") => `(tactic| skip)
local macro_rules | `(tactic| walk_at "PAD X2 5") => `(tactic| skip)
local macro_rules | `(tactic| walk_at "PAD X2 6") => `(tactic| skip)
local macro_rules | `(tactic| walk_at "PAD X2 7") => `(tactic| skip)
local macro_rules | `(tactic| walk_at "PAD X2 8") => `(tactic| skip)
local macro_rules | `(tactic| walk_at "PAD X2 9") => `(tactic| skip)
local macro_rules | `(tactic| walk_at "PAD X2 10") => `(tactic| skip)
local macro_rules | `(tactic| walk_at "PAD X2 11") => `(tactic| skip)
local macro_rules | `(tactic| walk_at "PAD X2 12") => `(tactic| skip)
local macro_rules | `(tactic| walk_at "PAD X2 13") => `(tactic| skip)
local macro_rules | `(tactic| walk_at "PAD X2 14") => `(tactic| skip)
local macro_rules | `(tactic| walk_at "PAD X2 15") => `(tactic| skip)
local macro_rules | `(tactic| walk_at "PAD X2 16") => `(tactic| skip)
local macro_rules | `(tactic| walk_at "PAD X2 17") => `(tactic| skip)
local macro_rules | `(tactic| walk_at "PAD X2 18") => `(tactic| skip)
local macro_rules | `(tactic| walk_at "PAD X2 19") => `(tactic| skip)
local macro_rules | `(tactic| walk_at "PAD X2 20") => `(tactic| skip)
local macro_rules | `(tactic| walk_at "PAD X2 21") => `(tactic| skip)
local macro_rules | `(tactic| walk_at "PAD X2 22") => `(tactic| skip)
open PySem PySem.W PyProof.Rows
/-- a text of the letters a, b, c -/
def Abc (x : PySem.Str) : Prop := ∃ cs : List Nat, x = ⟨cs.toArray⟩ ∧ ∀ c ∈ cs, 97 ≤ c ∧ c ≤ 99
theorem abc_of {cs : List Nat} (h : ∀ c ∈ cs, 97 ≤ c ∧ c ≤ 99) : Abc ⟨cs.toArray⟩ := ⟨cs, rfl, h⟩
theorem abc_app {x y : PySem.Str} (hx : Abc x) (hy : Abc y) : Abc (x ++ y) := by
  obtain ⟨a, rfl, ha⟩ := hx
  obtain ⟨b, rfl, hb⟩ := hy
  refine ⟨a ++ b, ?_, fun c hc => (List.mem_append.mp hc).elim (ha c) (hb c)⟩
  show Str.mk (a.toArray ++ b.toArray) = _
  rw [List.append_toArray]
theorem abc_to {x : PySem.Str} {j : Int} (h0 : 0 ≤ j) (hx : Abc x) : Abc (Txt.slice x none (some j)) := by
  obtain ⟨a, rfl, ha⟩ := hx
  rw [slice_to h0]
  exact ⟨_, rfl, fun c hc => ha c (List.mem_of_mem_take hc)⟩
theorem abc_clip {x : PySem.Str} (hx : Abc x) : ∃ cs : List Nat, Txt.slice x none (some 10) = ⟨cs.toArray⟩ ∧ cs.length ≤ 10 ∧ ∀ c ∈ cs, 97 ≤ c ∧ c ≤ 99 := by
  obtain ⟨a, rfl, ha⟩ := hx
  exact ⟨a.take 10, slice_to (by decide), by rw [List.length_take]; omega, fun c hc => ha c (List.mem_of_mem_take hc)⟩
theorem abc_item (k : Int) : Abc (Txt.item (Str.ofString "abc") (k.fmod 3)) := by
  have h0 := fmod_lo k (n := 3) (by decide)
  have h1 := fmod_hi k (n := 3) (by decide)
  have : k.fmod 3 = 0 ∨ k.fmod 3 = 1 ∨ k.fmod 3 = 2 := by omega
  rcases this with h | h | h <;> rw [h]
  · exact ⟨[97], by decide, by decide⟩
  · exact ⟨[98], by decide, by decide⟩
  · exact ⟨[99], by decide, by decide⟩
local macro_rules | `(tactic| walk_at "call builtin:len") => `(tactic| (k_here; (with_reducible show wpAny _ _ (call (Value.builtin "len") [Value.str _ _]) _ _ _); refine halt ?_))
set_option maxRecDepth 100000 in
set_option maxHeartbeats 8000000 in
theorem textof (w : World) (news : List (Addr × Obj)) (l : Addr) (vs : List Value) (ns : List Int) (hi : IntsAre vs ns) (hlen : ns.length ≤ 63) (hlay : (PyData.list (List.map PyData.int ns)).layable0 = true) :
    ConB Challenge.rw_rs0250_02.prog w (hd.heap_39 w.params) hd.view_39 28 1 100 [.ref l] (fun h => h.IsList l vs.toArray) news (fun r tl => ∃ (cs : List Nat) (t : Tok), r = .str ⟨cs.toArray⟩ t ∧ cs.length ≤ 10 ∧ (∀ c ∈ cs, 97 ≤ c ∧ c ≤ 99) ∧ tl = []) := by
  w_top off; k_fill
  k_dflt (refine' enterB (sel := []) ?hp ?hs ?ho ?hcd ?hb ?hk ?hn ?_ ?h1 ?c1 ?c2 ?c3; (case hp => exact fun h h' st hl => (let ⟨o, e, r⟩ := hl; ⟨o, st _ _ e, r⟩)); (case ho => k_is); (case hcd => k_is); (case hb => exact fun _ => BindsTo.of_eq rfl); (case hk => exact rfl); (case hn => decide +kernel); (case hs => exact fun q hq => nomatch hq); (case h1 => decide); (case c1 => exact rfl); (case c2 => exact rfl); (case c3 => exact rfl))
  intro loose mean mg mb dp un gd cn cs' a ccd cl outer base g L L' h₁ cells tk s E pb hck hdp hun F N Y B X T l1
  (try dsimp only)
  k_fold
  k_lt l1
  cases Y
  simp only [List.nil_append] at N
  obtain ⟨m1, hm1, F1⟩ : ∃ m1 : Str → Option Value, m1 (Str.ofString "script") = some (.ref l) ∧ Fr g L' h₁ m1 := ⟨_, rfl, F⟩
  clear F
  have F2 := fr_at F1 hm1
  clear F1
  generalize hW : Stmt.For (Expr.Name (Str.ofString "draw") _) _ _ _ _ = W
  generalize hV : Stmt.For (Expr.Name (Str.ofString "place") _) _ _ _ _ = V
  k_steps
  rename Fr _ _ _ _ => F3
  rename News _ _ _ _ => N3
  rename_i D _ _ h3
  replace N3 : ∃ dv dn c, News g L' h3 [(D, listOf (List.toArray dv) c)] ∧ IntsAre dv dn ∧ dn.length = 6 := ⟨[_, _, _, _, _, _], [0, 2, 5, 0, 9, 3], 0, N3, .cons _ _ (.cons _ _ (.cons _ _ (.cons _ _ (.cons _ _ (.cons _ _ .nil))))), rfl⟩
  obtain ⟨dv, dn, dc, N3, idv, hdn⟩ := N3
  subst hV
  with_unfolding_all refine For_invVF F3 rfl rfl ?_
  generalize hP : (fun xv s₁ => wpAny _ _ (pyIter xv) _ _ s₁) = PI
  k_steps
  subst hP
  rename IsRange _ _ _ _ _ _ _ _ => hr
  rename Fr _ _ _ _ => F4
  rename News _ _ _ _ => N4
  show wpAny _ _ (pyIter _) _ _ _
  have eb : (if (ns.length : Int) < 60 then (ns.length : Int) else 60) = ((min 60 ns.length : Nat) : Int) := by split <;> omega
  rw [eb] at hr
  clear eb
  refine range_inv (n := min 60 ns.length) (fun i m nx => ∃ dv dn c, nx = [(D, listOf (List.toArray dv) c)] ∧ IntsAre dv dn ∧ dn.length = 6 ∧ m (Str.ofString "draws") = some (.ref D) ∧ m (Str.ofString "script") = some (.ref l)) rfl hr (small_one (by omega) (by omega) (by omega) (by omega)) (by rw [rangeSize_nat]; omega) F4 N4 ⟨dv, dn, dc, rfl, idv, hdn, rfl, rfl⟩ ?_ ?_
  · rintro i ti m₂ nx h tk own hi hadr hoff ⟨dv, dn, dc, rfl, idv, hdn, m_d, m_s⟩ F5 N5
    have F6 := fr2 F5 (k1 := Str.ofString "draws") (k2 := Str.ofString "script") (v1 := .ref _) (v2 := .ref _) m_d m_s
    change Fr g L' h _ at F6
    change News g L' h _ at N5
    clear F5 F4 N4 hr
    k_steps
    rename Fr _ _ _ _ => F9
    rename News _ _ _ _ => N9
    rename IntsAre (List.set _ _ _) _ => hi9
    exact InvEndN.intro (nx := [(D, _)]) F9 N9 ⟨_, _, _, rfl, hi9, by rw [List.length_set]; exact hdn, rfl, rfl⟩ rfl (fun p hp => List.mem_append_left _ hp) (fun p hp => .tail _ hp)
  · clear idv hdn F3 N4 F4 hr
    rintro m₂ nx h tk ⟨dv, dn, dc, rfl, idv, hdn, m_d, m_s⟩ F5 N5
    have F6 := fr_at F5 m_d
    clear F5
    dsimp only
    k_steps
    subst hW
    rename Fr _ _ _ _ => F7
    rename News _ _ _ _ => N7
    with_unfolding_all refine For_invVF F7 rfl rfl ?_
    generalize hP : (fun xv s₁ => wpAny _ _ (pyIter xv) _ _ s₁) = PI
    k_steps
    subst hP
    rename Fr _ _ _ _ => F8
    rename News _ _ _ _ => N8
    show wpAny _ _ (pyIter _) _ _ _
    refine list_inv (D := D) (its := dv) (news := []) (fun i m nx => nx = [] ∧ ∃ (cs : List Nat) (t : Tok), m (Str.ofString "text") = some (.str ⟨cs.toArray⟩ t) ∧ cs.length ≤ 10 ∧ ∀ c ∈ cs, 97 ≤ c ∧ c ≤ 99) rfl F8 N8 (fun p hp => nomatch hp) (fun p hp => nomatch hp) ⟨rfl, [], _, rfl, by decide, fun c hc => nomatch hc⟩ ?_ ?_
    · rintro i v m₃ nx h tk own hi hv hadr hoff ⟨rfl, cs, t, m_t, hcl, hab⟩ F9 N9
      obtain ⟨u, rfl⟩ : ∃ u, v = .int (dn.getD i 0) u := by
        have := idv.length
        obtain ⟨u, hu⟩ := idv.get i (dn.getD i 0) (by simp [List.getD, show i < dn.length by omega])
        exact ⟨u, Option.some.inj (hv.symm.trans hu)⟩
      have F10 := fr_at F9 (k := Str.ofString "text") (v := .str _ _) m_t
      change Fr g L' h _ at F10
      change News g L' h _ at N9
      clear F9 F8 N8
      k_steps
      rotate_left 4
      · refine Halt.go ?_
        rename (_ == _) = false => hne
        have hpos : 0 < cs.length := Nat.pos_of_ne_zero fun e => by
          have : cs = [] := List.length_eq_zero_iff.mp e
          subst this
          exact absurd hne (by decide)
        refine len_txt (by omega) fun t9 k9 => ?_
        dsimp only
        k_steps
        rename Fr _ _ _ _ => F11
        rename News _ _ _ _ => N11
        obtain ⟨cs', e9, h1, h2⟩ := abc_clip (abc_app (abc_of hab) (abc_to (j := ((dn.getD i 0).fdiv 4).fmod (cs.length : Int) + 1) (by have := fmod_lo ((dn.getD i 0).fdiv 4) (n := (cs.length : Int)) (by omega); omega) (abc_of hab)))
        rw [e9] at F11
        exact InvEndN.intro (nx := []) F11 N11 ⟨rfl, cs', _, rfl, h1, h2⟩ rfl (fun p hp => nomatch hp) (fun p hp => hp)
      · rename Fr _ _ _ _ => F11
        rename News _ _ _ _ => N11
        obtain ⟨cs', e9, h1, h2⟩ := abc_clip (abc_app (abc_of hab) (abc_item ((dn.getD i 0).fdiv 4)))
        rw [e9] at F11
        exact InvEndN.intro (nx := []) F11 N11 ⟨rfl, cs', _, rfl, h1, h2⟩ rfl (fun p hp => nomatch hp) (fun p hp => hp)
      · rename Fr _ _ _ _ => F11
        rename News _ _ _ _ => N11
        obtain ⟨cs', e9, h1, h2⟩ := abc_clip (abc_app (abc_of hab) (abc_item ((dn.getD i 0).fdiv 4)))
        rw [e9] at F11
        exact InvEndN.intro (nx := []) F11 N11 ⟨rfl, cs', _, rfl, h1, h2⟩ rfl (fun p hp => nomatch hp) (fun p hp => hp)
      · rename Fr _ _ _ _ => F11
        rename News _ _ _ _ => N11
        obtain ⟨cs', e9, h1, h2⟩ := abc_clip (abc_app (abc_app (abc_of hab) (abc_item ((dn.getD i 0).fdiv 4))) (abc_of hab))
        rw [e9] at F11
        exact InvEndN.intro (nx := []) F11 N11 ⟨rfl, cs', _, rfl, h1, h2⟩ rfl (fun p hp => nomatch hp) (fun p hp => hp)
      · rename Fr _ _ _ _ => F11
        rename News _ _ _ _ => N11
        obtain ⟨cs', e9, h1, h2⟩ := abc_clip (abc_app (abc_of hab) (abc_of hab))
        rw [e9] at F11
        exact InvEndN.intro (nx := []) F11 N11 ⟨rfl, cs', _, rfl, h1, h2⟩ rfl (fun p hp => nomatch hp) (fun p hp => hp)
    · rintro m₃ nx h tk ⟨rfl, cs, t, m_t, hcl, hab⟩ F9 N9
      have F10 := fr_at F9 m_t
      dsimp only
      k_steps
      exact ⟨_, [], _, _, rfl, F10, fun p hp => (nomatch hp), fun q hq => (nomatch hq), cs, t, rfl, hcl, hab, rfl⟩
end Mine

namespace Mine
local macro_rules | `(tactic| walk_at "PAD Y2 0") => `(tactic| skip)
local macro_rules | `(tactic| walk_at "PAD Y2 1") => `(tactic| skip)
local macro_rules | `(tactic| walk_at "PAD Y2 2") => `(tactic| skip)
local macro_rules | `(tactic| walk_at "PAD Y2 3") => `(tactic| skip)
local macro_rules | `(tactic| walk_at "PAD Y2 4") => `(tactic| skip)
local macro_rules | `(tactic| walk_at "PAD Y2 5") => `(tactic| skip)
local macro_rules | `(tactic| walk_at "PAD Y2 6") => `(tactic| skip)
local macro_rules | `(tactic| walk_at "PAD Y2 7") => `(tactic| skip)
local macro_rules | `(tactic| walk_at "PAD Y2 8") => `(tactic| skip)
local macro_rules | `(tactic| walk_at "PAD Y2 9") => `(tactic| skip)
local macro_rules | `(tactic| walk_at "PAD Y2 10") => `(tactic| skip)
local macro_rules | `(tactic| walk_at "PAD Y2 11") => `(tactic| skip)
local macro_rules | `(tactic| walk_at "PAD Y2 12") => `(tactic| skip)
local macro_rules | `(tactic| walk_at "PAD Y2 13") => `(tactic| skip)
local macro_rules | `(tactic| walk_at "PAD Y2 14") => `(tactic| skip)
local macro_rules | `(tactic| walk_at "PAD Y2 15") => `(tactic| skip)
local macro_rules | `(tactic| walk_at "PAD Y2 16") => `(tactic| skip)
local macro_rules | `(tactic| walk_at "PAD Y2 17") => `(tactic| skip)
local macro_rules | `(tactic| walk_at "PAD Y2 18") => `(tactic| skip)
local macro_rules | `(tactic| walk_at "PAD Y2 19") => `(tactic| skip)
local macro_rules | `(tactic| walk_at "PAD Y2 20") => `(tactic| skip)
local macro_rules | `(tactic| walk_at "PAD Y2 21") => `(tactic| skip)
local macro_rules | `(tactic| walk_at "PAD Y2 22") => `(tactic| skip)
local macro_rules | `(tactic| walk_at "PAD Y2 23") => `(tactic| skip)
local macro_rules | `(tactic| walk_at "PAD Y2 24") => `(tactic| skip)
open PySem PySem.W PyProof.Rows
local macro_rules | `(tactic| walk_at "call builtin:len") => `(tactic| (k_here; refine len_txt (by omega) (fun t9 k9 => ?_); try dsimp only))
local macro_rules | `(tactic| walk_at "call ref") => `(tactic| refine halt ?_)
local macro_rules | `(tactic| walk_at "SegEnd") => `(tactic| refine halt ?_)
local macro_rules | `(tactic| walk_at "CompSrc") => `(tactic| ((rename StopC => zz7); refine halt ?_))
local macro_rules | `(tactic| walk_at "CompEnd") => `(tactic| ((rename StopC => zz7); refine halt ?_))
local macro_rules | `(tactic| walk_at "FinE") => `(tactic| ((rename StopC => zz7); refine halt ?_))
local macro_rules | `(tactic| walk_at "FinA") => `(tactic| ((rename StopC => zz7); refine halt ?_))
local macro_rules | `(tactic| walk_at "binaryOp Add ref ref") => `(tactic| refine halt ?_)
local macro_rules | `(tactic| walk_at "call builtin:list.append") => `(tactic| refine halt ?_)
local macro_rules | `(tactic| walk_at "call builtin:max") => `(tactic| refine halt ?_)
local macro_rules | `(tactic| walk_at "subscriptTail Call Name cons nil UnaryOp ref int") => `(tactic| (k_here; refine item_list_ints_negR (News.isList (by k_asm) (by k_mem)) (by assumption) (by decide) (by omega) (by decide) (fun t9 => ?_); try dsimp only))
local macro_rules | `(tactic| walk_at "eval Name") => `(tactic| ((with_reducible show wpAny _ _ (eval (Expr.Name (Str.ofString "ord") _) _) _ _ _); refine LCgL.ld_built (by k_asm) (by k_asm) (by k_asm) (by k_is) (by boot_by_name) (by decide) ?_; try dsimp only))
set_option maxRecDepth 100000 in
set_option maxHeartbeats 8000000 in
theorem lawWalk (w : World) (s : Shared) (loose : List Str) (mean : ExcName → Option Value) (mg mb : Str → Option Value) (T : Top hd.view_39 loose mean mg mb s.heap) (X : (hd.heap_39 w.params).In s.heap)
    (l : Addr) (vs : List Value) (ns : List Int) (hl : s.heap.IsList l vs.toArray) (hi : IntsAre vs ns) (hlay : (PyData.list (List.map PyData.int ns)).layable0 = true) (hlen : ns.length ≤ 63)
    (Q E : Value → Shared → Prop) (hQ : ∀ L' m' h' tk', Fr s.heap L' h' m' → Q (.bool true) { s with heap := h', toks := tk' }) :
    wpAny (model Challenge.rw_rs0250_02.prog w) callerA (call (.ref 48) [.ref l]) Q E s := by
  revert X
  w_top off; k_fill
  intro X
  k_dflt (refine' enterLaw T X ?ho ?hcd ?hb ?hk ?hn hQ ?_ ?c1 ?c2 ?c3; (case ho => k_is); (case hcd => k_is); (case hb => exact BindsTo.of_eq rfl); (case hk => exact rfl); (case hn => decide +kernel); (case c1 => exact rfl); (case c2 => exact rfl); (case c3 => exact rfl))
  intro L' h₁ cells tk F N Y B
  (try dsimp only)
  k_fold
  k_cells Y
  rename_i oS oT dS dT
  change oS.data = .cell none at dS
  change oT.data = .cell none at dT
  obtain ⟨m1, hm1, F1⟩ : ∃ m1 : Str → Option Value, m1 (Str.ofString "script") = some (.ref l) ∧ Fr s.heap L' h₁ m1 := ⟨_, rfl, F⟩
  clear F
  have F2 := fr_at F1 hm1
  clear F1
  generalize hW : Stmt.For (Expr.Name (Str.ofString "start") _) _ _ _ _ = W
  generalize hV : Stmt.For (Expr.Name (Str.ofString "size") _) _ _ _ _ = V
  k_steps
  refine Halt.go ?_
  rename Fr _ _ _ _ => F3
  rename News _ _ _ _ => N3
  refine con_useB (textof w _ l vs ns hi hlen hlay) hl B F3 X N3 T rfl (by decide) (by decide) ?_
  rintro r9 tl9 h9 tk9 ⟨cs, tx, rfl, hcl, hab, rfl⟩ F4 N4 -
  simp only [List.nil_append] at N4
  k_steps
  rename Fr _ _ _ _ => F5
  rename News _ _ _ _ => N5
  rename_i oT2 dT2 _ D _ l2 h5
  subst hV
  refine for_range_cell (h₀ := s.heap) (c := L' + 1 + 1) rfl rfl rfl ?_
  generalize hP : (fun (xv : Value) (s₁ : Shared) => ∃ _, _) = PI
  k_steps
  subst hP
  rename IsRange _ _ _ _ _ _ _ _ => hr
  rename Fr _ _ _ _ => F6
  rename News _ _ _ _ => N6
  have hsm : Builtin.Range.small 1 ((cs.length : Int) + 1) 1 = true := small_one (by omega) (by omega) (by omega) (by omega)
  have hrs : Builtin.Range.rangeSize 1 ((cs.length : Int) + 1) 1 = (cs.length : Int) := by rw [rangeSize_nat]; omega
  have hap : ∀ {o o' : Obj}, ∀ p ∈ [(D, o), (L' + 1, o')], p.1 ≠ L' + 1 + 1 := fun p hp => by
    simp only [List.mem_cons, List.not_mem_nil, or_false] at hp
    rcases hp with rfl | rfl
    · exact Nat.ne_of_gt l2.1
    · exact Nat.ne_of_lt (Nat.lt_succ_self _)
  refine ⟨_, _, _, _, _, _, cs.length, _, oS, none, [(D, listOf (List.toArray []) 0), (L' + 1, oT2)], fun i m nx => ∃ dv dc, nx = [(D, listOf (List.toArray dv) dc), (L' + 1, oT2)] ∧ IntsAre dv ((List.range i).map fun j => (bordN (cs.map Int.ofNat) (j + 1) : Int)) ∧ m (Str.ofString "due") = some (.ref D), rfl, rfl, hr, hsm, hrs, F6, fun p hp => N6 p (by simp only [List.mem_cons, List.not_mem_nil, or_false] at hp; rcases hp with rfl | rfl | rfl <;> k_mem), dS, hap, ⟨[], 0, rfl, .nil, rfl⟩, ?_, ?_⟩
  · --BEGIN
    rintro i ti m₂ nx I oI oc h tk hi ⟨dv, dc, rfl, idv, m_d⟩ dcc hne hIc F7 N7
    have F8 := fr_at F7 m_d
    change Fr s.heap L' h _ at F8
    change News s.heap L' h _ at N7
    clear F7 F6 N6 hr
    have sc : StopC := stopC
    have hne1 := hne _ (.head _)
    have hne2 := hne _ (.tail _ (.head _))
    k_steps
    refine Halt.go ?_
    rename IsRange _ _ _ _ _ _ _ _ => hr
    rename Fr _ _ _ _ => F9
    rename News _ _ _ _ => N9
    refine LCg.CompSrc.range (n := i) rfl F9 N9 hr (small_one (by omega) (by omega) (by omega) (by omega)) (by rw [rangeSize_nat]; omega) (by rw [sizeLine_eq]; omega) fun g' => ?_
    dsimp only
    refine comp_inv (fun j ys nx => nx = [(L' + 1 + 1, oc), (I, oI), (D, listOf (List.toArray dv) dc), (L' + 1, oT2)] ∧ ∃ ts : List Nat, IntsAre ys (ts.map Int.ofNat) ∧ ts.length = j ∧ ∀ a, a < j → IsLocal ((cs.take (i + 1)).map Int.ofNat) (a + 1) (ts.getD a 0)) i ?_ ?_ _ _ _ _ (by omega) ⟨rfl, [], .nil, rfl, fun a ha => by omega⟩
    · rintro j ys nx v I1 oI1 C1 oC1 D1 m₃ h tk E' hj ⟨rfl, ts, its, htl, hts⟩ ⟨t, rfl⟩ hC hx F10 N10 off ne
      rw [show (1 : Int) + (j : Int) = ((j + 1 : Nat) : Int) by omega] at hx
      clear F9 N9 hr
      k_steps
      refine Halt.go ?_
      rename Fr _ _ _ _ => F11
      rename News _ _ _ _ => N11
      rw [slice_to (by omega), show ((1 : Int) + (i : Int)).toNat = i + 1 by omega]
      refine con_use (lstep w _ (cs.take (i + 1)) _ (j + 1) t (by rw [List.length_take]; omega) (by rw [List.length_take]; omega)) B F11 X N11 T rfl (by decide) (by decide) ?_
      rintro r9 tl9 h9 tk9 ⟨tp, p, rfl, hloc, rfl⟩ F12 N12 -
      simp only [List.nil_append] at N12
      refine comp_end_none F12 N12 (fun p hp => hp) off trivial ⟨rfl, ts ++ [p], ?_, by rw [List.length_append, htl]; rfl, fun a ha => ?_⟩
      · rw [List.map_append]
        exact its.append (.cons _ _ .nil)
      · by_cases haj : a = j
        · subst haj
          rw [show (ts ++ [p]).getD a 0 = p by simp [List.getD, ← htl]]
          exact hloc
        · rw [show (ts ++ [p]).getD a 0 = ts.getD a 0 by simp [List.getD, List.getElem?_append_left (show a < ts.length by omega)]]
          exact hts a (by omega)
    · rintro ys nx ⟨rfl, ts, its, htl, hts⟩
      intro D1 h tk F10 N10 off
      clear F9 N9 hr
      k_steps
      refine Halt.go ?_
      dsimp only
      rename Fr _ _ _ _ => F11
      rename News _ _ _ _ => N11
      refine kmk_add_ints (vs := ys) (ws := [.int 1 _]) (ns := ts.map Int.ofNat) (ms := [1]) F11 N11 ⟨_, (N11 (D1, LCg.lst ys) (.tail _ (.head _))).1, rfl, _, rfl⟩ ⟨_, (N11 _ (.head _)).1, rfl, _, rfl⟩ its (.cons _ _ .nil) (fun D2 us h6 F12 N12 lt2 ius => ?_) (by rw [sizeLine_eq]; simp; omega)
      have ge2 := lt2 (D, listOf (List.toArray dv) dc) (by k_mem)
      dsimp only
      k_steps
      refine Halt.go ?_
      have N13 : News s.heap L' h6 [(D2, listOf us.toArray 0), (D, listOf (List.toArray dv) dc), (L' + 1 + 1, oc), (I, oI), (L' + 1, oT2)] := fun p hp => N12 p (by simp only [List.mem_cons, List.not_mem_nil, or_false] at hp; rcases hp with rfl | rfl | rfl | rfl | rfl <;> k_mem)
      clear N12 N11 F11 lt2 ge2
      refine max_ints rfl F12 N13 (.head _) ius (by simp) fun M tM h7 tk7 hM hmax F14 N14 => ?_
      have N15 : News s.heap L' h7 [(D, listOf (List.toArray dv) dc), (L' + 1 + 1, oc), (I, oI), (L' + 1, oT2)] := fun p hp => N14 p (.tail _ hp)
      clear N14 N13
      dsimp only
      k_steps
      refine Halt.go ?_
      rename Fr _ _ _ _ => F16
      refine append_K F16 N15 (.head fun p hp => ?_) (fun h' F17 N17 => ?_) ?_
      · simp only [List.mem_cons, List.not_mem_nil, or_false] at hp
        rcases hp with rfl | rfl | rfl
        · exact fun e => hne1.2 e.symm
        · exact fun e => hne1.1 e.symm
        · exact Nat.ne_of_lt l2.2
      · rw [List.push_toArray] at N17
        have e9 : (1 + (i : Int)) - M = (bordN (cs.map Int.ofNat) (i + 1) : Int) := by
          have := due_max (l := (cs.take (i + 1)).map Int.ofNat) (n := i + 1) (by rw [List.length_map, List.length_take]; omega) (by omega) htl (fun a ha => hts a (by omega)) hM hmax
          rw [List.map_take, bordN_take] at this
          omega
        rw [e9] at N17
        have idv' := idv.append (IntsAre.cons (bordN (cs.map Int.ofNat) (i + 1) : Int) tk7 .nil)
        generalize dv ++ [Value.int (bordN (cs.map Int.ofNat) (i + 1) : Int) tk7] = dv' at N17 idv'
        k_steps
        rename Fr _ _ _ _ => F18
        exact ⟨_, _, _, [(D, listOf (List.toArray dv') (dc + 1)), (L' + 1, oT2)], oc, _, rfl, F18, fun p hp => N17 p (by simp only [List.mem_cons, List.not_mem_nil, or_false] at hp; rcases hp with rfl | rfl | rfl | rfl <;> k_mem), fun p hp => (by
          simp only [List.mem_cons, List.not_mem_nil, or_false] at hp
          rcases hp with rfl | rfl
          · exact hne1
          · exact hne2), dcc, dv', dc + 1, rfl, (by rw [List.range_succ, List.map_append]; exact idv'), rfl⟩
      · have := idv.length
        rw [List.length_map, List.length_range] at this
        rw [List.size_toArray, sizeLine_eq]
        omega
  · rintro m₂ nx oc v h tk ⟨dv, dc, rfl, idv, m_d⟩ dcc hne F7 N7
    have F8 := fr_at F7 m_d
    change Fr s.heap L' h _ at F8
    change News s.heap L' h _ at N7
    clear F7 F6 N6 hr
    dsimp only
    refine seg_cut (pre := [_, _]) (fun s' => ∃ h tk m, s' = { s with heap := h, toks := tk } ∧ Fr s.heap L' h m ∧ News s.heap L' h [(L' + 1, oT2)]) ?_ ?_
    rotate_left
    · clear idv m_d F8 N7 dcc hne
      rintro s' ⟨h, tk, m, rfl, F8, N8⟩
      k_steps
      rename Fr _ _ _ _ => F9
      subst hW
      with_unfolding_all refine For_invVF F9 rfl rfl ?_
      generalize hP : (fun xv s₁ => wpAny _ _ (pyIter xv) _ _ s₁) = PI
      k_steps
      subst hP
      rename IsRange _ _ _ _ _ _ _ _ => hr
      rename Fr _ _ _ _ => F13
      rename News _ _ _ _ => N13
      show wpAny _ _ (pyIter _) _ _ _
      refine range_inv (n := cs.length) (fun i m nx => nx = [(L' + 1, oT2)]) rfl hr (small_up0 (by omega)) range_size0 F13 N13 rfl ?_ ?_
      · rintro i ti m₃ nx h tk own hi hadr hoff rfl F1 N1
        change Fr s.heap L' h _ at F1
        change News s.heap L' h _ at N1
        clear F13 N13 hr
        generalize hW : Stmt.Assign [Expr.Name (Str.ofString "letters") _] _ _ = W
        k_steps
        subst hW
        rename Fr _ _ _ _ => F2
        rename News _ _ _ _ => N2
        rw [slice_from (by omega) (by omega), show ((0 : Int) + (i : Int)).toNat = i by omega] at F2
        have hz : (cs.drop i).length = cs.length - i := List.length_drop
        have hab2 : ∀ c ∈ cs.drop i, 97 ≤ c ∧ c ≤ 99 := fun c hc => hab c (List.mem_of_mem_drop hc)
        obtain ⟨rs, hrs⟩ : ∃ rs, rs = cs.drop i := ⟨_, rfl⟩
        rw [← hrs] at F2 hz hab2
        with_unfolding_all refine Assign_ListComp_S (F₀ := F2) rfl (by with_unfolding_all rfl) (by with_unfolding_all rfl) (by decide) (by rfl) (by decide) (by rfl) (by rfl) (by rfl) ?_
        k_steps
        rename Fr _ _ _ _ => F3
        rename News _ _ _ _ => N3
        refine ⟨rs, _, _, rfl, rfl, F3, N3, by omega, fun c hc => by have := hab2 c hc; omega, fun g' => ?_⟩
        dsimp only
        have sc : StopC := stopC
        refine comp_inv (fun j zs nx => nx = (L' + 1, oT2) :: own ∧ IntsAre zs ((rs.take j).map Int.ofNat)) rs.length ?_ ?_ _ _ _ _ (by omega) ⟨rfl, .nil⟩
        · rintro j zs nx v I1 oI1 C1 oC1 D1 m₄ h tk E' hj ⟨rfl, izs⟩ ⟨t, rfl⟩ hC hx F4 N4 off ne
          clear F3 N3
          have hc := hab2 (rs.getD j 0) (by simp [List.getD, hj])
          generalize hcc : rs.getD j 0 = c at hx hc
          k_steps
          refine Halt.go ?_
          rename Fr _ _ _ _ => F9
          rename News _ _ _ _ => N9
          refine comp_end_none F9 N9 (fun p hp => hp) off trivial ⟨rfl, ?_⟩
          rw [List.take_add_one, List.getElem?_eq_getElem hj, List.map_append]
          have hcc' : rs[j] = c := by simpa [List.getD, hj] using hcc
          rw [hcc']
          exact izs.append (.cons _ _ .nil)
        · rintro zs nx ⟨rfl, izs⟩
          intro D1 h tk F4 N4 off
          clear F3 N3
          rw [List.take_length] at izs
          k_steps
          refine Halt.go ?_
          rename Fr _ _ _ _ => F5
          rename News _ _ _ _ => N5
          have hzi : (rs.map Int.ofNat).length = rs.length := List.length_map ..
          have htl2 := tab_length (rs.map Int.ofNat)
          refine con_use (overlap w _ (rs.map Int.ofNat) _ _ (pref_list (by k_mem) izs (by omega)) (by omega)) B F5 X N5 T rfl (by decide) (by decide) ?_
          rintro r9 tl9 h9 tk9 ⟨x2, tv2, tc2, rfl, rfl, itv2⟩ F6 N6 off8
          simp only [List.cons_append, List.nil_append] at N6
          clear F5 N5
          rw [hzi] at htl2
          generalize htt : tab (rs.map Int.ofNat) = tt at itv2 htl2
          have hlast : (-1 + (tt.length : Int)).toNat = rs.length - 1 := by omega
          clear izs
          k_steps
          refine Halt.go ?_
          rename Fr _ _ _ _ => F7
          rename News _ _ _ _ => N7
          refine con_use (oneplace w _ rs _ (by omega) (by omega) hab2) B F7 X N7 T rfl (by decide) (by decide) ?_
          rintro r9 tl9 h9 tk9 ⟨t9, k, rfl, ⟨ia, ib, hia, hib, hk⟩, rfl⟩ F8 N8 -
          simp only [List.nil_append] at N8
          clear F7 N7
          have hkl : k < rs.length := by
            have h1 := hia.1
            have h2 := hib.1
            rw [neg1_len] at h2
            omega
          k_steps
          refine Halt.go ?_
          rename Fr _ _ _ _ => F9
          rename News _ _ _ _ => N9
          refine con_use (lstep w _ rs _ k t9 (by omega) hkl) B F9 X N9 T rfl (by decide) (by decide) ?_
          rintro r9 tl9 h9 tk9 ⟨tp, p, rfl, hloc, rfl⟩ F10 N10 -
          simp only [List.nil_append] at N10
          clear F9 N9
          have hbord := local_border hia hib (hk ▸ hloc)
          have hv : tt.getD (-1 + (tt.length : Int)).toNat 0 = (rs.length : Int) - (p : Int) := by
            have hpl := hloc.2.1
            rw [hzi] at hbord hpl
            rw [hlast, ← htt, tab_get (by rw [hzi]; omega), show rs.length - 1 + 1 = rs.length by omega, hbord]
            omega
          rw [hv]
          walk1
          walk1
          rw [bne_self_eq_false]
          clear hv hbord hloc hia hib hkl htt itv2 hlast htl2 off8
          k_steps
          rename Fr _ _ _ _ => F11
          rename News _ _ _ _ => N11
          exact InvEndN.intro (nx := [(L' + 1, oT2)]) F11 N11 rfl rfl (fun p hp => by rw [List.mem_singleton.mp hp]; exact .tail _ (.tail _ (.head _))) (fun p hp => .tail _ (.tail _ (.tail _ hp)))
      · rintro m₃ nx h tk rfl F1 N1
        change Fr s.heap L' h _ at F1
        clear F13 N13 hr
        k_steps
        exact ⟨rfl, _, _, _, rfl, F1⟩
    k_steps
    refine Halt.go ?_
    rename Fr _ _ _ _ => F9
    rename News _ _ _ _ => N9
    refine con_use (overlap w _ (cs.map Int.ofNat) _ _ (pref_str (x := ⟨cs.toArray⟩) (by simp; omega)) (by rw [List.length_map]; omega)) B F9 X N9 T rfl (by decide) (by decide) ?_
    rintro r9 tl9 h9 tk9 ⟨x, tv, tc, rfl, rfl, itv⟩ F10 N10 off7
    replace off7 := off7 _ (.head _)
    simp only [LCg.Off1, and_true] at off7
    simp only [List.cons_append, List.nil_append] at N10
    have hcl2 : (cs.map Int.ofNat).length = cs.length := List.length_map ..
    rw [← tab_take hcl2] at idv
    have htl := tab_length (cs.map Int.ofNat)
    clear F9 N9
    k_steps
    · exact Str.ofString ""
    · exact (0 : Nat)
    · exact .none
    rotate_left
    · rename decide _ = false => hf
      simp at hf
    rename Fr _ _ _ _ => F11
    rename News _ _ _ _ => N11
    have N12 : News s.heap L' _ [(L' + 1, oT2)] := fun p hp => N11 p (by rw [List.mem_singleton.mp hp]; k_mem)
    clear N11 idv
    exact ⟨rfl, _, _, _, rfl, F11, N12⟩
end Mine

namespace Mine
open PySem PySem.W PyProof.Rows
set_option maxRecDepth 100000 in
set_option maxHeartbeats 8000000 in
theorem holds : PySem.Challenge.rw_rs0250_02.Holds := hd (by
  w_top off; k_fill
  intro w s₀ s₁ mg mb G Y fa o pm cd doc dV kV ho hd hcd hD hmg hg args vals as hpre hlay hrd hwl hlo
  have KX := kIn_of Y
  refine Ground.open G ?_
  intro T B D TE TW
  wrow_args hpre hlay hrd hwl hlo
  rename List Int => ns
  rename IntsAre _ ns => hi
  rename PyData.layable0 (PyData.list (List.map PyData.int ns)) = true => hl0
  rename ¬ _ < _ => hlt
  rename Heap.IsList _ _ _ => hL
  have hfa := mg_of KX T.g (show nsIn _ mainGlobals (Str.ofString "law") = some (some (.ref 48)) by k_is)
  have e48 : fa = 48 := by
    have h9 := hmg.symm.trans hfa
    cases h9
    rfl
  subst e48
  show wpAny _ _ (call (.ref 48) [.ref _]) _ _ _
  refine lawWalk w s₁ _ _ _ _ T KX _ _ ns hL hi hl0 (by omega) _ _ fun L' m' h' tk' F => ?_
  refine GoodW.toG ?_
  wrow_close)
end Mine

theorem PySem.Challenge.cw_rs0250_02_holds : PySem.Challenge.rw_rs0250_02.Holds :=
  Mine.holds
