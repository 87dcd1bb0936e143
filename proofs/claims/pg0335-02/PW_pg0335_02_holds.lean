import PyProof.Rows.All
import Wide.All
import OpenK.AllK
import Wide.FinOn
import Lean
import PySem.Challenge.RW_pg0335_02

set_option Elab.async false

section
open PySem PySem.W PyProof.Rows PySem.Calls PySem.Spec
namespace Mine
/-- where several ways of one statement meet: what holds behind it -/
def JPost {σ : Type} (h₀ : Heap) (L : Addr) (s : Shared) (Led : σ → List (Addr × Obj)) (ps : σ → List (Str × Value)) (stored : List Str) (m₀ : Str → Option Value) (X : σ → Prop) (Q : Flow → Shared → Prop) (f : Flow) (s₂ : Shared) : Prop :=
  match f with
  | .next => ∃ (c : σ) (h' : Heap) (tk : Nat) (m' : Str → Option Value) (news' : List (Addr × Obj)), s₂ = { s with heap := h', toks := tk } ∧ Fr h₀ L h' m' ∧ News h₀ L h' news' ∧ (∀ p ∈ Led c, p ∈ news') ∧ (∀ p ∈ ps c, m' p.1 = some p.2) ∧ (∀ z, (∀ p ∈ ps c, z ≠ p.1) → stored.contains z = false → m' z = m₀ z) ∧ X c
  | .ret v => Q (.ret v) s₂
  | _ => False
section
variable {prog : Program} {w : World} {A : Around} {E : Value → Shared → Prop} {Q : Flow → Shared → Prop} {s : Shared} {t : Sem Flow} {h₀ : Heap} {L : Addr} {m₀ : Str → Option Value} {news : List (Addr × Obj)}
theorem j_join {σ : Type} (Led : σ → List (Addr × Obj)) (ps : σ → List (Str × Value)) (stored : List Str) (X : σ → Prop)
    (F : Fr h₀ L s.heap m₀) (N : News h₀ L s.heap news)
    (go : wpAny (model prog w) A t (JPost h₀ L s Led ps stored m₀ X Q) E s)
    (done : ∀ (c : σ) (u : Str → Option Value) h tk, X c → Fr h₀ L h (kstB (fun z => if stored.contains z then u z else m₀ z) (ps c)) → News h₀ L h (Led c) → Q .next { s with heap := h, toks := tk }) :
    wpAny (model prog w) A t Q E s := by
  refine wpAny_mono go (fun f s₂ p => ?_) fun _ _ x => x
  cases f with
  | ret v => exact p
  | brk => exact p.elim
  | cont => exact p.elim
  | next =>
    obtain ⟨c, h', tk, m', news', rfl, F', N', h1, h2, h3, h4⟩ := p
    exact done c m' h' tk h4 (ksw_fr h2 h3 F') (fun p hp => N' p (h1 p hp))
theorem j_end {σ : Type} {Led : σ → List (Addr × Obj)} {ps : σ → List (Str × Value)} {stored : List Str} {X : σ → Prop} {m' : Str → Option Value} {h' : Heap} {tk : Nat} {news' : List (Addr × Obj)} (c : σ)
    (F : Fr h₀ L h' m') (N : News h₀ L h' news') (hn : ∀ p ∈ Led c, p ∈ news') (hk : ∀ p ∈ ps c, m' p.1 = some p.2) (hr : ∀ z, (∀ p ∈ ps c, z ≠ p.1) → stored.contains z = false → m' z = m₀ z) (hx : X c) :
    JPost h₀ L s Led ps stored m₀ X Q .next { s with heap := h', toks := tk } := ⟨c, h', tk, m', news', rfl, F, N, hn, hk, hr, hx⟩
end

/-- the same frame, written in other words -/
theorem fr_re {h₀ : Heap} {L : Addr} {h : Heap} {m m' : Str → Option Value} (ks : List Str) (F : Fr h₀ L h m) (hk : ∀ k ∈ ks, m' k = m k) (ho : ∀ z, (∀ k ∈ ks, z ≠ k) → m' z = m z) : Fr h₀ L h m' := by
  have e : m' = m := by
    funext z
    by_cases hz : ∃ k ∈ ks, z = k
    · obtain ⟨k, h1, rfl⟩ := hz
      exact hk _ h1
    · exact ho z fun k h1 h2 => hz ⟨k, h1, h2⟩
  rw [e]; exact F
theorem lookup_kstB (l : List (Str × Value)) : kstB (fun _ => none) l = fun y => List.lookup y l := by
  funext y
  induction l with
  | nil => rfl
  | cons p r ih =>
    show (if y = p.1 then some p.2 else kstB (fun _ => none) r y) = List.lookup y (p :: r)
    rw [ih]
    obtain ⟨k, v⟩ := p
    rw [List.lookup_cons]
    by_cases e : y = k
    · subst e; simp
    · have e2 : (y == k) = false := by simpa using e
      simp [e, e2]
theorem fr_start {h₀ : Heap} {L : Addr} {h : Heap} (l : List (Str × Value)) (F : Fr h₀ L h (fun y => List.lookup y l)) : Fr h₀ L h (kstB (fun _ => none) l) := by
  rw [lookup_kstB]; exact F
theorem mem_l1 {x : Addr × Obj} {l o : List (Addr × Obj)} : ∀ p ∈ x :: l, p ∈ x :: (l ++ o) := fun p hp => by
  cases hp with
  | head => exact .head _
  | tail _ h => exact .tail _ (List.mem_append_left _ h)
theorem mem_l2 {x : Addr × Obj} {l o : List (Addr × Obj)} : ∀ p ∈ o, p ∈ x :: (l ++ o) := fun _ hp => .tail _ (List.mem_append_right _ hp)
/-- a call of one of the text's own defs: it ends, makes nothing that stays, and gives the int r -/
abbrev TellI (prog : Program) (w : World) (K : Frag) (p : Program) (loose : List Str) (mean : ExcName → Option Value) (mg mb : Str → Option Value) (f : Addr) (vs : List Value) (d u : Nat) (r : Int) : Prop :=
  ∀ (dp un : Nat) (gd : Option (List Code)) (cn : Str) (cs : Scope) (a : Addr) (ccd : Value) (cl : List (Str × Addr)) (outer : List Env) (A₀ : Around) (base h₀ : Heap) (L : Addr) (m : Str → Option Value) (news : List (Addr × Obj)) (s : Shared) (Q E : Value → Shared → Prop),
    Below A₀ base outer h₀ → Fr h₀ L s.heap m → K.In h₀ → News h₀ L s.heap news → Top p loose mean mg mb h₀ → cs.kind = .function → dp + d < recursionLimit → un + u < cLine →
    (∀ (t : Tok) (h' : Heap) (tk' : Nat), Fr h₀ L h' m → News h₀ L h' news → Q (.int r t) { s with heap := h', toks := tk' }) →
      wpAny (model prog w) (ktrTop dp un gd cn cs L a ccd cl outer) (call (.ref f) vs) Q E s

/-- a call of one of the text's own defs: it ends, makes nothing that stays, and gives an int of which P holds -/
abbrev TellP (prog : Program) (w : World) (K : Frag) (p : Program) (loose : List Str) (mean : ExcName → Option Value) (mg mb : Str → Option Value) (f : Addr) (vs : List Value) (d u : Nat) (P : Int → Prop) : Prop :=
  ∀ (dp un : Nat) (gd : Option (List Code)) (cn : Str) (cs : Scope) (a : Addr) (ccd : Value) (cl : List (Str × Addr)) (outer : List Env) (A₀ : Around) (base h₀ : Heap) (L : Addr) (m : Str → Option Value) (news : List (Addr × Obj)) (s : Shared) (Q E : Value → Shared → Prop),
    Below A₀ base outer h₀ → Fr h₀ L s.heap m → K.In h₀ → News h₀ L s.heap news → Top p loose mean mg mb h₀ → cs.kind = .function → dp + d < recursionLimit → un + u < cLine →
    (∀ (r : Int) (t : Tok) (h' : Heap) (tk' : Nat), P r → Fr h₀ L h' m → News h₀ L h' news → Q (.int r t) { s with heap := h', toks := tk' }) →
      wpAny (model prog w) (ktrTop dp un gd cn cs L a ccd cl outer) (call (.ref f) vs) Q E s

/-- a call of one of the text's own defs: it ends and gives a new list of texts of which P holds -/
abbrev TellS (prog : Program) (w : World) (K : Frag) (p : Program) (loose : List Str) (mean : ExcName → Option Value) (mg mb : Str → Option Value) (f : Addr) (vs : List Value) (d u : Nat) (P : List Str → Prop) : Prop :=
  ∀ (dp un : Nat) (gd : Option (List Code)) (cn : Str) (cs : Scope) (a : Addr) (ccd : Value) (cl : List (Str × Addr)) (outer : List Env) (A₀ : Around) (base h₀ : Heap) (L : Addr) (m : Str → Option Value) (news : List (Addr × Obj)) (s : Shared) (Q E : Value → Shared → Prop),
    Below A₀ base outer h₀ → Fr h₀ L s.heap m → K.In h₀ → News h₀ L s.heap news → Top p loose mean mg mb h₀ → cs.kind = .function → dp + d < recursionLimit → un + u < cLine →
    (∀ (D : Addr) (us : List Value) (ws : List Str) (c : Nat) (h' : Heap) (tk' : Nat), P ws → StrsAre us ws → Fr h₀ L h' m → News h₀ L h' ((D, listOf us.toArray c) :: news) → (∀ p ∈ news, p.1 < D) → Q (.ref D) { s with heap := h', toks := tk' }) →
      wpAny (model prog w) (ktrTop dp un gd cn cs L a ccd cl outer) (call (.ref f) vs) Q E s
theorem fr_to {h₀ : Heap} {L : Addr} {h : Heap} {m m' : Str → Option Value} (F : Fr h₀ L h m) (e : m' = m) : Fr h₀ L h m' := e ▸ F
section
variable {prog : Program} {w : World} {A : Around} {E : Value → Shared → Prop} {Q : Flow → Shared → Prop} {s : Shared} {t : Sem Flow} {h₀ : Heap} {L : Addr} {m₀ : Str → Option Value} {news : List (Addr × Obj)}
theorem j_add {σ : Type} (ex : σ → List (Addr × Obj)) (ps : σ → List (Str × Value)) (stored : List Str) (X : σ → Prop)
    (F : Fr h₀ L s.heap m₀) (N : News h₀ L s.heap news)
    (go : wpAny (model prog w) A t (JPost h₀ L s (fun c => ex c ++ news) ps stored m₀ X Q) E s)
    (done : ∀ (c : σ) (u : Str → Option Value) h tk, X c → Fr h₀ L h (kstB (fun z => if stored.contains z then u z else m₀ z) (ps c)) → News h₀ L h (ex c ++ news) → Q .next { s with heap := h, toks := tk }) :
    wpAny (model prog w) A t Q E s := j_join (fun c => ex c ++ news) ps stored X F N go done
end
end Mine
end

section
open PySem PySem.W PyProof.Rows
namespace Mine
def lo (c : Nat) : Nat := if 65 ≤ c ∧ c ≤ 90 then c + 32 else c
/-- the price of one sign in another's place -/
def cost (x y : Nat) : Int := if x = y then 0 else if lo x = lo y then 1 else 2
theorem cost_self (x : Nat) : cost x x = 0 := by simp [cost]
theorem cost_nn (x y : Nat) : 0 ≤ cost x y := by unfold cost; split <;> (try split) <;> omega
theorem cost_le (x y : Nat) : cost x y ≤ 2 := by unfold cost; split <;> (try split) <;> omega
theorem cost_symm (x y : Nat) : cost x y = cost y x := by
  unfold cost
  by_cases h : x = y
  · subst h; rfl
  · have h' : ¬ y = x := fun e => h e.symm
    simp only [h, h', if_false]
    by_cases g : lo x = lo y
    · simp [g]
    · have g' : ¬ lo y = lo x := fun e => g e.symm
      simp [g, g']
theorem cost_tri (x y z : Nat) : cost x z ≤ cost x y + cost y z := by
  by_cases h1 : x = y
  · subst h1; rw [cost_self]; omega
  · by_cases h2 : y = z
    · subst h2; rw [cost_self]; omega
    · by_cases h3 : x = z
      · subst h3; rw [cost_self]; have := cost_nn x y; have := cost_nn y x; omega
      · unfold cost
        simp only [h1, h2, h3, if_false]
        by_cases g1 : lo x = lo y
        · by_cases g2 : lo y = lo z
          · have g3 : lo x = lo z := g1.trans g2
            simp [g1, g2]
          · have g3 : ¬ lo x = lo z := fun e => g2 (g1.symm.trans e)
            simp [g1, g2]
        · simp only [g1, if_false]
          split <;> split <;> omega

/-- the ways of making one word of another -/
inductive Al : List Nat → List Nat → Int → Prop
  | nil : Al [] [] 0
  | del {a b : List Nat} {c : Int} (x : Nat) (h : Al a b c) : Al (x :: a) b (c + 2)
  | ins {a b : List Nat} {c : Int} (y : Nat) (h : Al a b c) : Al a (y :: b) (c + 2)
  | sub {a b : List Nat} {c : Int} (x y : Nat) (h : Al a b c) : Al (x :: a) (y :: b) (c + cost x y)

def D : List Nat → List Nat → Int
  | [], b => 2 * b.length
  | x :: a, [] => 2 * (x :: a).length
  | x :: a, y :: b => min (min (D a (y :: b)) (D (x :: a) b) + 2) (D a b + cost x y)
termination_by a b => a.length + b.length

theorem D_nil_l (b : List Nat) : D [] b = 2 * (b.length : Int) := by unfold D; rfl
theorem D_nil_r (a : List Nat) : D a [] = 2 * (a.length : Int) := by cases a <;> (unfold D; rfl)
theorem D_cons (x y : Nat) (a b : List Nat) : D (x :: a) (y :: b) = min (min (D a (y :: b)) (D (x :: a) b) + 2) (D a b + cost x y) := by
  rw [D]
theorem Al.nn {a b : List Nat} {c : Int} (h : Al a b c) : 0 ≤ c := by
  induction h with
  | nil => omega
  | del x h ih => omega
  | ins y h ih => omega
  | sub x y h ih => have := cost_nn x y; omega
theorem Al.delAll : ∀ a : List Nat, Al a [] (2 * (a.length : Int))
  | [] => by simpa using Al.nil
  | x :: a => by
    have h := Al.del x (Al.delAll a)
    have e : 2 * (a.length : Int) + 2 = 2 * ((x :: a).length : Int) := by simp only [List.length_cons]; omega
    rw [← e]; exact h
theorem Al.insAll : ∀ b : List Nat, Al [] b (2 * (b.length : Int))
  | [] => by simpa using Al.nil
  | y :: b => by
    have h := Al.ins y (Al.insAll b)
    have e : 2 * (b.length : Int) + 2 = 2 * ((y :: b).length : Int) := by simp only [List.length_cons]; omega
    rw [← e]; exact h
theorem Al.cast {a b : List Nat} {c c' : Int} (h : Al a b c) (e : c = c') : Al a b c' := e ▸ h
theorem Al_D (a b : List Nat) : Al a b (D a b) := by
  match a, b with
  | [], b => rw [D_nil_l]; exact Al.insAll b
  | x :: a, [] => rw [D_nil_r]; exact Al.delAll _
  | x :: a, y :: b =>
    have h1 := Al_D a (y :: b)
    have h2 := Al_D (x :: a) b
    have h3 := Al_D a b
    rw [D_cons]
    by_cases g : D a b + cost x y ≤ min (D a (y :: b)) (D (x :: a) b) + 2
    · exact (Al.sub x y h3).cast (by omega)
    · by_cases g2 : D a (y :: b) ≤ D (x :: a) b
      · exact (Al.del x h1).cast (by omega)
      · exact (Al.ins y h2).cast (by omega)
termination_by a.length + b.length
theorem D_nn (a b : List Nat) : 0 ≤ D a b := (Al_D a b).nn
theorem D_del (x : Nat) (a b : List Nat) : D (x :: a) b ≤ D a b + 2 := by
  cases b with
  | nil => rw [D_nil_r, D_nil_r]; simp only [List.length_cons]; omega
  | cons y b => rw [D_cons]; omega
theorem D_ins (y : Nat) (a b : List Nat) : D a (y :: b) ≤ D a b + 2 := by
  cases a with
  | nil => rw [D_nil_l, D_nil_l]; simp only [List.length_cons]; omega
  | cons x a => rw [D_cons]; omega
theorem D_le {a b : List Nat} {c : Int} (h : Al a b c) : D a b ≤ c := by
  induction h with
  | nil => rw [D_nil_l]; simp
  | @del a b c x h ih => have := D_del x a b; omega
  | @ins a b c y h ih => have := D_ins y a b; omega
  | sub x y h ih => rw [D_cons]; omega
theorem Al.append {a b a' b' : List Nat} {c c' : Int} (h : Al a b c) (h' : Al a' b' c') : Al (a ++ a') (b ++ b') (c + c') := by
  induction h with
  | nil => exact h'.cast (by omega)
  | del x h ih => exact (Al.del x ih).cast (by omega)
  | ins y h ih => exact (Al.ins y ih).cast (by omega)
  | sub x y h ih => exact (Al.sub x y ih).cast (by omega)
theorem Al.reverse {a b : List Nat} {c : Int} (h : Al a b c) : Al a.reverse b.reverse c := by
  induction h with
  | nil => exact Al.nil
  | del x h ih =>
    have := ih.append (Al.del x Al.nil)
    rw [List.reverse_cons]; rw [List.append_nil] at this; exact this.cast (by omega)
  | ins y h ih =>
    have := ih.append (Al.ins y Al.nil)
    rw [List.reverse_cons]; rw [List.append_nil] at this; exact this.cast (by omega)
  | sub x y h ih =>
    have := ih.append (Al.sub x y Al.nil)
    rw [List.reverse_cons, List.reverse_cons]; exact this.cast (by omega)
theorem Al.symm {a b : List Nat} {c : Int} (h : Al a b c) : Al b a c := by
  induction h with
  | nil => exact Al.nil
  | del x h ih => exact Al.ins x ih
  | ins y h ih => exact Al.del y ih
  | sub x y h ih => exact (Al.sub y x ih).cast (by rw [cost_symm])
theorem D_symm (a b : List Nat) : D a b = D b a := Int.le_antisymm (D_le (Al_D b a).symm) (D_le (Al_D a b).symm)
theorem D_rev (a b : List Nat) : D a.reverse b.reverse = D a b := by
  refine Int.le_antisymm (D_le (Al_D a b).reverse) ?_
  have := D_le (Al_D a.reverse b.reverse).reverse
  rwa [List.reverse_reverse, List.reverse_reverse] at this
theorem D_snoc (x y : Nat) (a b : List Nat) : D (a ++ [x]) (b ++ [y]) = min (min (D a (b ++ [y])) (D (a ++ [x]) b) + 2) (D a b + cost x y) := by
  have h := D_cons x y a.reverse b.reverse
  have e (l : List Nat) (z : Nat) : z :: l.reverse = (l ++ [z]).reverse := by simp
  rw [e, e, D_rev, D_rev, D_rev, D_rev] at h
  exact h
/-- splitting a way at a place of the second word -/
theorem Al.split {a b : List Nat} {c : Int} (h : Al a b c) : ∀ b1 b2, b = b1 ++ b2 → ∃ a1 a2 c1 c2, a = a1 ++ a2 ∧ Al a1 b1 c1 ∧ Al a2 b2 c2 ∧ c = c1 + c2 := by
  induction h with
  | nil =>
    intro b1 b2 e
    have e1 : b1 = [] := by cases b1 with | nil => rfl | cons _ _ => cases e
    subst e1
    have e2 : b2 = [] := by simpa using e.symm
    subst e2
    exact ⟨[], [], 0, 0, rfl, .nil, .nil, rfl⟩
  | del x h ih =>
    intro b1 b2 e
    obtain ⟨a1, a2, c1, c2, e1, g1, g2, e2⟩ := ih b1 b2 e
    exact ⟨x :: a1, a2, c1 + 2, c2, by rw [e1]; rfl, .del x g1, g2, by omega⟩
  | @ins a b c y h ih =>
    intro b1 b2 e
    cases b1 with
    | nil =>
      have e' : b2 = y :: b := e.symm
      subst e'
      exact ⟨[], a, 0, c + 2, rfl, .nil, .ins y h, by omega⟩
    | cons z b1 =>
      have e1 : y = z := (List.cons.inj e).1
      have e2 : b = b1 ++ b2 := (List.cons.inj e).2
      subst e1
      obtain ⟨a1, a2, c1, c2, e3, g1, g2, e4⟩ := ih b1 b2 e2
      exact ⟨a1, a2, c1 + 2, c2, e3, .ins y g1, g2, by omega⟩
  | @sub a b c x y h ih =>
    intro b1 b2 e
    cases b1 with
    | nil =>
      have e' : b2 = y :: b := e.symm
      subst e'
      exact ⟨[], x :: a, 0, c + cost x y, rfl, .nil, .sub x y h, by omega⟩
    | cons z b1 =>
      have e1 : y = z := (List.cons.inj e).1
      have e2 : b = b1 ++ b2 := (List.cons.inj e).2
      subst e1
      obtain ⟨a1, a2, c1, c2, e3, g1, g2, e4⟩ := ih b1 b2 e2
      exact ⟨x :: a1, a2, c1 + cost x y, c2, by rw [e3]; rfl, .sub x y g1, g2, by omega⟩
theorem D_split (a b1 b2 : List Nat) : ∃ a1 a2, a = a1 ++ a2 ∧ D a1 b1 + D a2 b2 ≤ D a (b1 ++ b2) := by
  obtain ⟨a1, a2, c1, c2, e, h1, h2, e2⟩ := (Al_D a (b1 ++ b2)).split b1 b2 rfl
  exact ⟨a1, a2, e, by have := D_le h1; have := D_le h2; omega⟩
theorem D_append (a b a' b' : List Nat) : D (a ++ a') (b ++ b') ≤ D a b + D a' b' := D_le ((Al_D a b).append (Al_D a' b'))
theorem D_self (a : List Nat) : D a a = 0 := by
  have h : ∀ a, Al a a 0 := by
    intro a
    induction a with
    | nil => exact .nil
    | cons x a ih => exact (Al.sub x x ih).cast (by rw [cost_self]; omega)
  have := D_le (h a); have := D_nn a a; omega
theorem Al.tri {a b : List Nat} {c1 : Int} (h1 : Al a b c1) : ∀ {d : List Nat} {c2 : Int}, Al b d c2 → ∃ c3, c3 ≤ c1 + c2 ∧ Al a d c3 := by
  induction h1 with
  | nil => intro d c2 h2; exact ⟨c2, by omega, h2⟩
  | del x h ih =>
    intro d c2 h2
    obtain ⟨c3, l, g⟩ := ih h2
    exact ⟨c3 + 2, by omega, .del x g⟩
  | @ins a b c y h ih =>
    intro d c2 h2
    generalize hb : y :: b = yb at h2
    induction h2 with
    | nil => cases hb
    | del z g _ =>
      cases hb
      obtain ⟨c3, l, g'⟩ := ih g
      exact ⟨c3, by omega, g'⟩
    | ins z g ih2 =>
      obtain ⟨c3, l, g'⟩ := ih2 hb
      exact ⟨c3 + 2, by omega, .ins z g'⟩
    | sub z z' g _ =>
      cases hb
      obtain ⟨c3, l, g'⟩ := ih g
      exact ⟨c3 + 2, by have := cost_nn y z'; omega, .ins z' g'⟩
  | @sub a b c x y h ih =>
    intro d c2 h2
    generalize hb : y :: b = yb at h2
    induction h2 with
    | nil => cases hb
    | del z g _ =>
      cases hb
      obtain ⟨c3, l, g'⟩ := ih g
      exact ⟨c3 + 2, by have := cost_nn x y; omega, .del x g'⟩
    | ins z g ih2 =>
      obtain ⟨c3, l, g'⟩ := ih2 hb
      exact ⟨c3 + 2, by omega, .ins z g'⟩
    | sub z z' g _ =>
      cases hb
      obtain ⟨c3, l, g'⟩ := ih g
      exact ⟨c3 + cost x z', by have := cost_tri x y z'; omega, .sub x z' g'⟩
theorem D_tri (a b d : List Nat) : D a d ≤ D a b + D b d := by
  obtain ⟨c3, l, g⟩ := (Al_D a b).tri (Al_D b d)
  have := D_le g; omega
theorem D_pre (p a b : List Nat) : D (p ++ a) (p ++ b) = D a b := by
  induction p with
  | nil => rfl
  | cons x p ih =>
    rw [List.cons_append, List.cons_append, D_cons, ih, cost_self]
    have h1 : D (p ++ a) (p ++ b) ≤ D (p ++ a) (x :: (p ++ b)) + 2 := by
      have h := (Al_D (p ++ a) (x :: (p ++ b))).tri (Al.del x (Al_D (p ++ b) (p ++ b)))
      obtain ⟨c3, l, g⟩ := h
      have := D_le g; rw [D_self] at l; omega
    have h2 : D (p ++ a) (p ++ b) ≤ D (x :: (p ++ a)) (p ++ b) + 2 := by
      have h := (Al.ins x (Al_D (p ++ a) (p ++ a))).tri (Al_D (x :: (p ++ a)) (p ++ b))
      obtain ⟨c3, l, g⟩ := h
      have := D_le g; rw [D_self] at l; omega
    rw [ih] at h1 h2
    omega
theorem D_post (p a b : List Nat) : D (a ++ p) (b ++ p) = D a b := by
  have h := D_pre p.reverse a.reverse b.reverse
  rw [← List.reverse_append, ← List.reverse_append, D_rev, D_rev] at h
  exact h
theorem D_le_max (a b : List Nat) : D a b ≤ 2 * max (a.length : Int) b.length := by
  match a, b with
  | [], b => rw [D_nil_l]; simp only [List.length_nil]; omega
  | x :: a, [] => rw [D_nil_r]; simp only [List.length_nil]; omega
  | x :: a, y :: b =>
    have h := D_le_max a b
    have := cost_le x y
    rw [D_cons]; simp only [List.length_cons]; omega
theorem Al.len {a b : List Nat} {c : Int} (h : Al a b c) : 2 * ((b.length : Int) - a.length) ≤ c := by
  induction h with
  | nil => simp
  | del x h ih => simp only [List.length_cons]; omega
  | ins y h ih => simp only [List.length_cons]; omega
  | sub x y h ih => simp only [List.length_cons]; have := cost_nn x y; omega
theorem D_len (a b : List Nat) : 2 * ((b.length : Int) - a.length) ≤ D a b := (Al_D a b).len
end Mine
end

section
open PySem PySem.W PyProof.Rows PySem.Spec PySem.Builtin PySem.Builtin.Str
namespace Mine
def ls (x : Str) : List Nat := x.cps.toList
theorem ls_len (x : Str) : (ls x).length = x.length := by simp [ls, Str.length]
theorem ls_ext {x y : Str} (h : ls x = ls y) : x = y := by
  cases x with | mk xs => cases y with | mk ys =>
  have : xs.toList = ys.toList := h
  rw [Array.toList_inj.mp this]
theorem ls_from {x : Str} {k : Int} (h0 : 0 ≤ k) (h1 : k ≤ x.length) : ls (Txt.slice x (some k) none) = (ls x).drop k.toNat := by
  have h2 : k ≤ x.cps.toList.length := by simpa [Str.length] using h1
  have h := beq_iff_eq.mp (slice_closes_from (x := x) (i := k) ⟨h0, h2⟩)
  rw [h]
  show ((x.cps.toList.drop k.toNat).take ((x.cps.toList.length : Int) - k).toNat) = _
  rw [List.take_of_length_le]
  · rfl
  · rw [List.length_drop]; omega
theorem ls_to {x : Str} {k : Int} (h0 : 0 ≤ k) (h1 : k ≤ x.length) : ls (Txt.slice x none (some k)) = (ls x).take k.toNat := by
  have h2 : k ≤ x.cps.toList.length := by simpa [Str.length] using h1
  have h := beq_iff_eq.mp (slice_closes_to (x := x) (j := k) ⟨h0, h2⟩)
  rw [h]
  show ((x.cps.toList.drop (0 : Int).toNat).take (k - 0).toNat) = _
  simp [ls]
theorem ls_to_neg {x : Str} {k : Int} (h0 : k < 0) (h1 : -(x.length : Int) ≤ k) : ls (Txt.slice x none (some k)) = (ls x).take (x.length + k).toNat := by
  have h := beq_iff_eq.mp (slice_closes_to_neg (x := x) (j := k) h0 h1 rfl)
  rw [h]
  show ((x.cps.toList.drop (0 : Int).toNat).take _) = _
  simp only [ls, Int.toNat_zero, List.drop_zero, Int.sub_zero]
  rw [Int.add_comm]
theorem ls_to_zero (x : Str) : ls (Txt.slice x none none) = ls x := by
  have h : Txt.slice x none none = x := by
    unfold Txt.slice
    have e : (strSliceIndices none none 1 x.length).length = x.length := by
      simp [strSliceIndices, sliceRange]
      split <;> omega
    rw [e]; simp
  rw [h]
theorem item_in {x : Str} {k : Int} (h0 : 0 ≤ k) (h1 : k < x.length) : Txt.item x k = ⟨#[(ls x).getD k.toNat 0]⟩ := by
  rw [PyProof.Rows.item_at h0 h1 rfl]
  simp [ls]
theorem item_neg {x : Str} {k : Int} (h0 : k < 0) (h1 : -(x.length : Int) ≤ k) : Txt.item x k = ⟨#[(ls x).getD (x.length + k).toNat 0]⟩ := by
  rw [beq_iff_eq.mp (item_closes_neg h0 h1 rfl), Int.add_comm]
  simp [ls]
theorem sgl_inj {c d : Nat} (h : (⟨#[c]⟩ : Str) = ⟨#[d]⟩) : c = d := by
  injection h with h; simpa using h
/-- the first k signs of both are the same -/
def Pfx (a b : Str) (k : Int) : Prop := (ls a).take k.toNat = (ls b).take k.toNat
theorem pfx_zero (a b : Str) : Pfx a b 0 := by simp [Pfx]
theorem pfx_step {a b : Str} {k : Int} (h : Pfx a b k) (h0 : 0 ≤ k) (ha : k < a.length) (hb : k < b.length) (e : (Txt.item a k == Txt.item b k) = true) : Pfx a b (k + 1) := by
  have e1 := beq_iff_eq.mp e
  rw [item_in h0 ha, item_in h0 hb] at e1
  have e2 := sgl_inj e1
  have la : k.toNat < (ls a).length := by rw [ls_len]; omega
  have lb : k.toNat < (ls b).length := by rw [ls_len]; omega
  have hk : (k + 1).toNat = k.toNat + 1 := by omega
  unfold Pfx at *
  rw [hk, List.take_add_one, List.take_add_one, h, List.getElem?_eq_getElem la, List.getElem?_eq_getElem lb]
  rw [List.getD_eq_getElem?_getD, List.getD_eq_getElem?_getD, List.getElem?_eq_getElem la, List.getElem?_eq_getElem lb] at e2
  simp only [Option.getD_some] at e2
  rw [e2]
theorem pfx_D {a b : Str} {k : Int} (h : Pfx a b k) (h0 : 0 ≤ k) (ha : k ≤ a.length) (hb : k ≤ b.length) :
    D (ls (Txt.slice a (some k) none)) (ls (Txt.slice b (some k) none)) = D (ls a) (ls b) := by
  rw [ls_from h0 ha, ls_from h0 hb]
  have e1 := List.take_append_drop k.toNat (ls a)
  have e2 := List.take_append_drop k.toNat (ls b)
  have e3 : (ls a).take k.toNat = (ls b).take k.toNat := h
  calc D ((ls a).drop k.toNat) ((ls b).drop k.toNat) = D ((ls a).take k.toNat ++ (ls a).drop k.toNat) ((ls a).take k.toNat ++ (ls b).drop k.toNat) := (D_pre _ _ _).symm
    _ = D (ls a) (ls b) := by rw [e1, e3, e2]
/-- the last -p signs of both are the same -/
def Sfx (a b : Str) (p : Int) : Prop := (ls a).drop (a.length + p).toNat = (ls b).drop (b.length + p).toNat
theorem sfx_zero (a b : Str) : Sfx a b 0 := by
  unfold Sfx
  rw [List.drop_of_length_le (by rw [ls_len]; omega), List.drop_of_length_le (by rw [ls_len]; omega)]
theorem sfx_step {a b : Str} {p : Int} (h : Sfx a b p) (h0 : p ≤ 0) (ha : 0 < a.length + p) (hb : 0 < b.length + p) (e : (Txt.item a (p - 1) == Txt.item b (p - 1)) = true) : Sfx a b (p - 1) := by
  have e1 := beq_iff_eq.mp e
  rw [item_neg (by omega) (by omega), item_neg (by omega) (by omega)] at e1
  have e2 := sgl_inj e1
  have la : ((a.length : Int) + (p - 1)).toNat < (ls a).length := by rw [ls_len]; omega
  have lb : ((b.length : Int) + (p - 1)).toNat < (ls b).length := by rw [ls_len]; omega
  have ka : ((a.length : Int) + p).toNat = ((a.length : Int) + (p - 1)).toNat + 1 := by omega
  have kb : ((b.length : Int) + p).toNat = ((b.length : Int) + (p - 1)).toNat + 1 := by omega
  unfold Sfx at *
  rw [ka, kb] at h
  rw [List.drop_eq_getElem_cons la, List.drop_eq_getElem_cons lb, h]
  rw [List.getD_eq_getElem?_getD, List.getD_eq_getElem?_getD, List.getElem?_eq_getElem la, List.getElem?_eq_getElem lb] at e2
  simp only [Option.getD_some] at e2
  rw [e2]
theorem sfx_D {a b : Str} {p : Int} (h : Sfx a b p) : D ((ls a).take (a.length + p).toNat) ((ls b).take (b.length + p).toNat) = D (ls a) (ls b) := by
  have e1 := List.take_append_drop (a.length + p).toNat (ls a)
  have e2 := List.take_append_drop (b.length + p).toNat (ls b)
  have e3 : (ls a).drop (a.length + p).toNat = (ls b).drop (b.length + p).toNat := h
  calc D ((ls a).take (a.length + p).toNat) ((ls b).take (b.length + p).toNat) = D ((ls a).take (a.length + p).toNat ++ (ls b).drop (b.length + p).toNat) ((ls b).take (b.length + p).toNat ++ (ls b).drop (b.length + p).toNat) := (D_post _ _ _).symm
    _ = D (ls a) (ls b) := by rw [← e3, e1, e3, e2]
theorem len_to_neg {x : Str} {j : Int} (h0 : j < 0) (h1 : 0 ≤ j + x.length) : ((Txt.slice x none (some j)).length : Int) = j + x.length := by
  rw [← ls_len, ls_to_neg h0 (by omega), List.length_take, ls_len]; omega
section
variable {prog : Program} {w : World} {A : Around} {E : Value → Shared → Prop} {s : Shared} {h₀ : Heap} {L : Addr} {m : Str → Option Value} {news : List (Addr × Obj)} {x : Str} {t : Tok} {value slice : PySem.Expr} {Q : Value → Shared → Prop}
theorem slice_ns_mine {j : Int} {uj : Tok} (hF : Fr h₀ L s.heap m) (hN : News h₀ L s.heap news)
    (h : ∀ h' t' k, Fr h₀ L h' m → News h₀ L h' news → (Txt.slice x none (some j)).length ≤ x.length → (j < 0 → 0 ≤ j + (x.length : Int) → ((Txt.slice x none (some j)).length : Int) = j + x.length) → Q (.str (Txt.slice x none (some j)) t') { s with heap := h', toks := k })
    (hs : subscripted slice false (.str x t) (.ref s.heap.objs.size) = operate [.ref s.heap.objs.size, .str x t] (getItem (.str x t) (.ref s.heap.objs.size)) := by with_unfolding_all rfl)
    (ht : ∀ r, letTemporaryGo value (.str x t) r = pure () := by intro _; with_unfolding_all rfl) (hsz : x.length ≤ sizeLine := by size_fits) :
    wpAny (model prog w) A (subscriptTail value slice (.str x t) (.ref s.heap.objs.size)) Q E { s with heap := s.heap.push { cls := .type "slice", data := .fields #[.none, .int j uj, .none] } } :=
  slice_strN_ns_len hF hN (fun h' t' k a b c => h h' t' k a b c fun h0 h1 => len_to_neg h0 h1) hs ht hsz
end
/-- what the function may tell -/
def Told (a b : Str) (mc r : Int) : Prop := r = D (ls a) (ls b) ∨ (mc < D (ls a) (ls b) ∧ r = mc + 1)

def row0 (n : Nat) : List Int := (List.range n).map fun (i : Nat) => 2 + (i : Int) * 2
theorem row0_len (n : Nat) : (row0 n).length = n := by simp [row0]
theorem ints_of : ∀ (vs : List Value) (f : Nat → Int), (∀ (j : Nat) (v : Value), vs[j]? = some v → ∃ t, v = .int (f j) t) → IntsAre vs ((List.range vs.length).map f)
  | [], f, _ => IntsAre.nil
  | v :: r, f, h => by
    obtain ⟨t, ht⟩ := h 0 v rfl
    subst ht
    have ih := ints_of r (fun j => f (j + 1)) fun j v hj => h (j + 1) v hj
    rw [List.length_cons, List.range_succ_eq_map, List.map_cons, List.map_map]
    exact IntsAre.cons _ _ ih
theorem row0_at {n i : Nat} (h : i < n) : (row0 n).getD i 0 = 2 + (i : Int) * 2 := by
  unfold row0
  rw [List.getD_eq_getElem?_getD, List.getElem?_map, List.getElem?_range h]
  rfl
section
variable {prog : Program} {w : World} {A : Around} {E : Value → Shared → Prop} {s : Shared} {h₀ : Heap} {L r : Addr} {m : Str → Option Value} {news : List (Addr × Obj)} {b : Int} {t₀ u₀ v₀ : Tok} {n : Nat} {Q : Value → Shared → Prop}
theorem my_list_range2 (hh : A.handled = none) (F : Fr h₀ L s.heap m) (N : News h₀ L s.heap news) (hr : IsRange s.heap r 2 b 2 t₀ u₀ v₀) (hb : b = 2 * ((n : Int) + 1)) (hn : n ≤ 1000)
    (h : ∀ D us c h' tk, Fr h₀ L h' m → News h₀ L h' ((D, listOf (List.toArray us) c) :: news) → (∀ p ∈ news, p.1 < D) → IntsAre us (row0 n) → Q (.ref D) { s with heap := h', toks := tk }) :
    wpAny (model prog w) A (call (.type "list") [.ref r]) Q E s := by
  have hz : Builtin.Range.rangeSize 2 b 2 = (n : Int) := by
    unfold Builtin.Range.rangeSize
    rw [if_pos (by decide)]
    split <;> omega
  have hs : Builtin.Range.small 2 b 2 = true := by
    unfold Builtin.Range.small
    rw [hz]
    simp only [Builtin.Range.rangeFitsLong, Bool.and_eq_true, Bool.or_eq_true, decide_eq_true_eq, beq_iff_eq, show (2 : Int) > 0 by decide, if_true]
    omega
  refine call_list_range hh hr hs hz (by omega) fun h' tk acc c hk hD hI => ?_
  have hD' : h'.get? s.heap.objs.size = some (listOf (List.toArray acc.toList) c) := by
    rw [Array.toArray_toList]
    exact hD
  refine h _ acc.toList c h' tk (F.keeps hk) (news_pushed F N hk hD' rfl) (fun p hp => Heap.lt_size (N p hp).1) ?_
  have hl : acc.toList.length = n := by rw [Array.length_toList]; exact hI.1
  have := ints_of acc.toList (fun i => 2 + (i : Int) * 2) fun j v hj => hI.2 j v (by rw [← hj, Array.getElem?_toList])
  rw [hl] at this
  exact this
end
end Mine
end

section
open PySem PySem.W PyProof.Rows PySem.Spec
namespace Mine
def Ed (a b : List Nat) (i j : Nat) : Int := D (a.take i) (b.take j)
theorem Ed_z (a b : List Nat) {j : Nat} (h : j ≤ b.length) : Ed a b 0 j = 2 * (j : Int) := by
  unfold Ed; rw [List.take_zero, D_nil_l, List.length_take]; omega
theorem Ed_z' (a b : List Nat) {i : Nat} (h : i ≤ a.length) : Ed a b i 0 = 2 * (i : Int) := by
  unfold Ed; rw [List.take_zero, D_nil_r, List.length_take]; omega
theorem Ed_s (a b : List Nat) {i j : Nat} (hi : i < a.length) (hj : j < b.length) :
    Ed a b (i + 1) (j + 1) = min (min (Ed a b i (j + 1)) (Ed a b (i + 1) j) + 2) (Ed a b i j + cost (a.getD i 0) (b.getD j 0)) := by
  unfold Ed
  have ea : a.take (i + 1) = a.take i ++ [a.getD i 0] := by
    rw [List.take_add_one, List.getElem?_eq_getElem hi, List.getD_eq_getElem?_getD, List.getElem?_eq_getElem hi]; rfl
  have eb : b.take (j + 1) = b.take j ++ [b.getD j 0] := by
    rw [List.take_add_one, List.getElem?_eq_getElem hj, List.getD_eq_getElem?_getD, List.getElem?_eq_getElem hj]; rfl
  rw [ea, eb, D_snoc]
theorem Ed_all (a b : List Nat) : Ed a b a.length b.length = D a b := by
  unfold Ed; rw [List.take_length, List.take_length]
theorem Ed_lip (a b : List Nat) (i j : Nat) (hi : i < a.length) : Ed a b (i + 1) j ≤ Ed a b i j + 2 := by
  unfold Ed
  have ea : a.take (i + 1) = a.take i ++ [a.getD i 0] := by
    rw [List.take_add_one, List.getElem?_eq_getElem hi, List.getD_eq_getElem?_getD, List.getElem?_eq_getElem hi]; rfl
  have h := D_append (a.take i) (b.take j) [a.getD i 0] []
  rw [List.append_nil, D_nil_r] at h
  rw [ea]; simpa using h
theorem Ed_one_le (a b : List Nat) {j : Nat} (ha : 0 < a.length) (hj : j + 1 ≤ b.length) : Ed a b 1 (j + 1) ≤ 2 * ((j : Int) + 1) := by
  have h := D_le_max (a.take 1) (b.take (j + 1))
  unfold Ed
  rw [List.length_take, List.length_take] at h
  omega
/-- the row and the last told, ahead of the turn j of the outer loop -/
structure Outer (a b : List Nat) (j : Nat) (res : Int) (row : List Int) : Prop where
  len : row.length = a.length
  cells : ∀ k, k < a.length → row.getD k 0 = Ed a b (k + 1) j
  last : 0 < j → res = Ed a b a.length j
theorem outer_start (a b : List Nat) (res : Int) : Outer a b 0 res (row0 a.length) :=
  ⟨row0_len _, fun k h => by rw [row0_at h, Ed_z' a b (by omega)]; omega, fun h => absurd h (Nat.lt_irrefl 0)⟩
/-- ahead of the turn i of the inner loop, in the turn j of the outer one -/
structure Inner (a b : List Nat) (j i : Nat) (d r mn : Int) (row : List Int) : Prop where
  len : row.length = a.length
  cells : ∀ k, k < a.length → row.getD k 0 = if k < i then Ed a b (k + 1) (j + 1) else Ed a b (k + 1) j
  dist : d = Ed a b i j
  res : r = if i = 0 then 2 * (j : Int) else Ed a b i (j + 1)
  low : ∀ k, k < i → mn ≤ Ed a b (k + 1) (j + 1)
theorem inner_start {a b : List Nat} {j : Nat} {res : Int} {row : List Int} {mn d : Int} (h : Outer a b j res row) (hj : j < b.length) (hd : d = (j : Int) * 2) : Inner a b j 0 d d mn row :=
  ⟨h.len, fun k hk => by rw [h.cells k hk, if_neg (Nat.not_lt_zero k)], by rw [Ed_z a b (by omega)]; omega, by rw [if_pos rfl]; omega, fun k hk => absurd hk (Nat.not_lt_zero k)⟩
theorem getD_set_self {row : List Int} {i : Nat} {v : Int} (h : i < row.length) : (row.set i v).getD i 0 = v := by
  rw [List.getD_eq_getElem?_getD, List.getElem?_set_self h]; rfl
theorem getD_set_ne {row : List Int} {i k : Nat} {v : Int} (h : i ≠ k) : (row.set i v).getD k 0 = row.getD k 0 := by
  rw [List.getD_eq_getElem?_getD, List.getElem?_set_ne h, List.getD_eq_getElem?_getD]
theorem inner_res {a b : List Nat} {j i : Nat} {d r mn : Int} {row : List Int} (h : Inner a b j i d r mn row) (hi : i < a.length) (hj : j < b.length) {c : Int} (hc : c = cost (b.getD j 0) (a.getD i 0)) :
    min (min r (row.getD i 0) + 2) (d + c) = Ed a b (i + 1) (j + 1) := by
  rw [h.cells i hi, if_neg (Nat.lt_irrefl i), h.dist, h.res, Ed_s a b hi hj, hc, cost_symm]
  have h2 := cost_le (a.getD i 0) (b.getD j 0)
  by_cases e : i = 0
  · subst e
    rw [if_pos rfl, Ed_z a b (by omega), Ed_z a b (by omega)]
    omega
  · rw [if_neg e]
theorem inner_step {a b : List Nat} {j i : Nat} {d r mn : Int} {row : List Int} (h : Inner a b j i d r mn row) (hi : i < a.length) (hj : j < b.length) {c : Int} (hc : c = cost (b.getD j 0) (a.getD i 0)) {v mn' : Int}
    (hv : v = min (min r (row.getD i 0) + 2) (d + c)) (hm : mn' ≤ v) (hm' : mn' ≤ mn) : Inner a b j (i + 1) (row.getD i 0) v mn' (row.set i v) := by
  have e := inner_res h hi hj hc
  rw [← hv] at e
  refine ⟨by rw [List.length_set]; exact h.len, fun k hk => ?_, ?_, ?_, fun k hk => ?_⟩
  · by_cases g : i = k
    · subst g
      rw [getD_set_self (by rw [h.len]; exact hi), if_pos (Nat.lt_succ_self i), e]
    · rw [getD_set_ne g, h.cells k hk]
      by_cases g2 : k < i
      · rw [if_pos g2, if_pos (by omega)]
      · rw [if_neg g2, if_neg (by omega)]
  · rw [h.cells i hi, if_neg (Nat.lt_irrefl i)]
  · rw [if_neg (Nat.succ_ne_zero i), e]
  · by_cases g : k = i
    · subst g; omega
    · have := h.low k (by omega); omega
theorem outer_step {a b : List Nat} {j : Nat} {d r mn : Int} {row : List Int} (h : Inner a b j a.length d r mn row) (ha : 0 < a.length) : Outer a b (j + 1) r row :=
  ⟨h.len, fun k hk => by rw [h.cells k hk, if_pos hk], fun _ => by rw [h.res, if_neg (by omega)]⟩
theorem early {a b : List Nat} {j : Nat} {d r mn mc : Int} {row : List Int} (h : Inner a b j a.length d r mn row) (ha : 0 < a.length) (hj : j < b.length) (hm : mc < mn) : mc < D a b := by
  have e := List.take_append_drop (j + 1) b
  obtain ⟨a1, a2, ea, hs⟩ := D_split a (b.take (j + 1)) (b.drop (j + 1))
  rw [e] at hs
  have nn := D_nn a2 (b.drop (j + 1))
  have e1 : a1 = a.take a1.length := by rw [ea, List.take_left]
  have hl : a1.length ≤ a.length := by rw [ea, List.length_append]; omega
  have key : mc < Ed a b a1.length (j + 1) := by
    by_cases g : a1.length = 0
    · rw [g, Ed_z a b (by omega)]
      have := h.low 0 ha
      have := Ed_one_le a b ha (j := j) (by omega)
      simp only [Nat.zero_add] at *
      omega
    · have := h.low (a1.length - 1) (by omega)
      rw [Nat.sub_add_cancel (by omega)] at this
      omega
  unfold Ed at key
  rw [← e1] at key
  omega
end Mine
namespace Mine
theorem lower1 {c : Nat} (h : c < 128) : Txt.lower ⟨#[c]⟩ = ⟨#[lo c]⟩ := by
  rw [lower_ascii (x := ⟨#[c]⟩) (by intro d hd; have : d = c := by simpa using hd
                                    subst this; exact h)]
  simp [lo, lo1]
/-- the price of two signs, as the text reckons it -/
def subS (x y : Str) : Int := if x = y then 0 else if Txt.lower x = Txt.lower y then 1 else 2
theorem subS_cost {c d : Nat} (hc : c < 128) (hd : d < 128) : subS ⟨#[c]⟩ ⟨#[d]⟩ = cost c d := by
  unfold subS cost
  rw [lower1 hc, lower1 hd]
  by_cases e : c = d
  · subst e; simp
  · have e1 : ¬ (⟨#[c]⟩ : Str) = ⟨#[d]⟩ := fun h => e (sgl_inj h)
    rw [if_neg e1, if_neg e]
    by_cases g : lo c = lo d
    · rw [g, if_pos rfl, if_pos rfl]
    · have g1 : ¬ (⟨#[lo c]⟩ : Str) = ⟨#[lo d]⟩ := fun h => g (sgl_inj h)
      rw [if_neg g1, if_neg g]
def Asc (x : Str) : Prop := ∀ c ∈ ls x, c < 128
theorem asc_at {x : Str} (h : Asc x) (k : Nat) : (ls x).getD k 0 < 128 := by
  rw [List.getD_eq_getElem?_getD]
  cases e : (ls x)[k]? with
  | none => simp
  | some c => exact h c (List.mem_of_getElem? e)
theorem subS_item {a b : Str} (ha : Asc a) (hb : Asc b) {j i : Int} (hj : 0 ≤ j) (hj2 : j < b.length) (hi : 0 ≤ i) (hi2 : i < a.length) :
    subS (Txt.item b j) (Txt.item a i) = cost ((ls b).getD j.toNat 0) ((ls a).getD i.toNat 0) := by
  rw [item_in hj hj2, item_in hi hi2, subS_cost (asc_at hb _) (asc_at ha _)]
theorem asc_drop {x y : Str} (h : Asc x) {k : Nat} (e : ls y = (ls x).drop k) : Asc y := fun c hc => h c (by rw [e] at hc; exact List.mem_of_mem_drop hc)
theorem asc_take {x y : Str} (h : Asc x) {k : Nat} (e : ls y = (ls x).take k) : Asc y := fun c hc => h c (by rw [e] at hc; exact List.mem_of_mem_take hc)
theorem told_same (a b : Str) (mc : Int) (h : (a == b) = true) : Told a b mc 0 := by
  have e := beq_iff_eq.mp h
  subst e
  exact .inl (D_self _).symm
theorem ls_nil {x : Str} (h : x.length = 0) : ls x = [] := List.length_eq_zero_iff.mp (by rw [ls_len]; exact h)
theorem told_empty {a b a2 b2 : Str} {mc r : Int} (hD : D (ls a2) (ls b2) = D (ls a) (ls b)) (h : a2.length = 0 ∨ b2.length = 0) (hr : r = 2 * ((a2.length : Int) + b2.length)) : Told a b mc r := by
  refine .inl ?_
  rw [← hD, hr]
  rcases h with h | h
  · rw [ls_nil h, D_nil_l, ls_len, h]; omega
  · rw [ls_nil h, D_nil_r, ls_len, h]; omega
end Mine
namespace Mine
theorem told_early {a b a3 b3 : Str} {mc : Int} (hD : D (ls a3) (ls b3) = D (ls a) (ls b)) (h : mc < ((b3.length : Int) - a3.length) * 2 ∨ mc < D (ls a3) (ls b3)) : Told a b mc (mc + 1) := by
  refine .inr ⟨?_, rfl⟩
  rw [← hD]
  rcases h with h | h
  · have := D_len (ls a3) (ls b3)
    rw [ls_len, ls_len] at this
    omega
  · exact h
end Mine
namespace Mine
theorem told_last {a b a3 b3 : Str} {mc r : Int} {row : List Int} {j : Nat} (hD : D (ls a3) (ls b3) = D (ls a) (ls b)) (h : Outer (ls a3) (ls b3) j r row) (hj : j = b3.length) (h0 : 0 < b3.length) : Told a b mc r := by
  refine .inl ?_
  have e := h.last (by omega)
  rw [hj, ← ls_len b3, Ed_all, hD] at e
  exact e
end Mine
namespace Mine
theorem inner_turn {a b : Str} (hA : Asc a) (hB : Asc b) {j : Nat} {pre : List Int} {kj kN : Int} {d r mn : Int} {row : List Int} (h : Inner (ls a) (ls b) j pre.length d r mn row) (hl : row.length = a.length)
    (hk : kN = 0 + (pre.length : Int)) (hlt : pre.length < ((a.length : Int) - 0).toNat) (hkj : kj = (j : Int)) (hjb : j < (ls b).length) {v mn' : Int}
    (hv : v = if d + subS (Txt.item b kj) (Txt.item a kN) < (if row.getD kN.toNat 0 < r then row.getD kN.toNat 0 else r) + 2 then d + subS (Txt.item b kj) (Txt.item a kN) else (if row.getD kN.toNat 0 < r then row.getD kN.toNat 0 else r) + 2)
    (hm : mn' ≤ v) (hm' : mn' ≤ mn) : (row.set kN.toNat v).length = a.length ∧ Inner (ls a) (ls b) j (pre ++ [kN]).length (row.getD kN.toNat 0) v mn' (row.set kN.toNat v) := by
  have e1 : kN.toNat = pre.length := by omega
  have e2 : (pre ++ [kN]).length = pre.length + 1 := by simp
  rw [ls_len] at hjb
  have hc := subS_item hA hB (j := kj) (i := kN) (by omega) (by omega) (by omega) (by omega)
  have e3 : kj.toNat = j := by omega
  rw [e1, e3] at hc
  rw [e2, e1]
  refine ⟨by rw [List.length_set]; exact hl, inner_step h (by rw [ls_len]; omega) (by rw [ls_len]; exact hjb) rfl ?_ hm hm'⟩
  rw [hv, hc, e1]
  split <;> split <;> omega
theorem outer_fin {a b : Str} {j : Nat} {pre : List Int} {kN : Int} {d r mn : Int} {row : List Int} (h : Inner (ls a) (ls b) j (rangeKs 0 ((a.length : Int) - 0).toNat).length d r mn row) (h0 : 0 < a.length) (hj : j = pre.length) : Outer (ls a) (ls b) (pre ++ [kN]).length r row := by
  have e2 : (pre ++ [kN]).length = j + 1 := by simp [hj]
  rw [rangeKs_length, Int.sub_zero, Int.toNat_natCast, ← ls_len a] at h
  rw [e2]
  exact outer_step h (by rw [ls_len]; exact h0)
theorem early_fin {a b : Str} {j : Nat} {d r mn mc : Int} {row : List Int} (h : Inner (ls a) (ls b) j (rangeKs 0 ((a.length : Int) - 0).toNat).length d r mn row) (h0 : 0 < a.length) (hj : j < (ls b).length) (hm : mc < mn) : mc < D (ls a) (ls b) := by
  rw [rangeKs_length, Int.sub_zero, Int.toNat_natCast, ← ls_len a] at h
  exact early h (by rw [ls_len]; exact h0) hj hm
end Mine
end

section
open PySem PySem.W PyProof.Rows
namespace Mine
set_option maxRecDepth 100000 in
set_option maxHeartbeats 8000000 in
open_top hd02 for PySem.Challenge.rw_pg0335_02
end Mine
end

section
open PySem PySem.W PyProof.Rows PySem.Calls PySem.Spec
namespace Mine

set_option maxRecDepth 100000 in
set_option maxHeartbeats 8000000 in
theorem sub_claim (w : World) (mean : ExcName → Option Value) (mg mb : Str → Option Value) (x y : Str) (tx ty : Tok) (hx : x.length ≤ 1000) (hy : y.length ≤ 1000) :
   TellI PySem.Challenge.rw_pg0335_02.row.prog w (hd02.heap_39 w.params) hd02.view_39 (looseW hd02.view_39 []) mean mg mb 21 [.str x tx, .str y ty] 1 8 (subS x y) := by
  w_top off
  k_fill
  dsimp only [TellI]
  intros
  rename_i hret
  refine wpAny_call ?_
  k_dflt cell_enter
  k_steps
  all_goals (refine cb_retI hret ?_ (by k_asm) (by k_asm))
  · simp_all [subS]
  · simp_all [subS]
  · simp_all [subS]
end Mine
end

section
open PySem PySem.W PyProof.Rows PySem.Calls PySem.Spec
namespace Mine
/- the walk, stopping ahead of a while -/
local macro_rules | `(tactic| ktn_open) => `(tactic| repeat' (first | (k_unfold; (try dsimp only)) | ((with_reducible show InvEndN _ _ _ _ _ _ _); ((rename News _ _ _ _ => nE'); (first
  | (refine' kst_end ⟨_, _, _, _, _, _, _, _, _⟩ (by assumption) nE' mem_l1 mem_l2 (by rfl) ?f1 ?f2 ?f3 ?f4; (case f1 => kst_facts); (case f2 => kst_all); (case f3 => kst_same); (case f4 => kst_p))
  | (refine' kst_end ⟨_, _, _, _, _⟩ (by assumption) nE' mem_l1 mem_l2 (by rfl) ?f1 ?f2 ?f3 ?f4; (case f1 => kst_facts); (case f2 => kst_all); (case f3 => kst_same); (case f4 => kst_p))))) | ((fail_if_success (with_reducible show wpAny _ _ (exec (Stmt.While _ _ _ _) _) _ _ _)); first | (k_end; wrow_close) | walk1 | (dsimp only; walk1) | (leave1; walk_say "STEP leave1"; try dsimp only) | fail "no step")))
local macro_rules | `(tactic| walk_at "subscriptTail Name Slice str ref") => `(tactic| ((with_reducible show wpAny _ _ (subscriptTail _ (Expr.Slice none (some _) none _) _ _) _ _ _); (with_reducible rename Fr _ _ _ _ => F'); (with_reducible rename News _ _ _ _ => N'); refine slice_strN_nn_len (s := ⟨_, _, _, _, _⟩) F' N' ?_; intro _ _ _ _ _ _))
local macro_rules | `(tactic| walk_at "subscriptTail Name Slice str ref") => `(tactic| ((with_reducible show wpAny _ _ (subscriptTail _ (Expr.Slice none (some _) none _) _ _) _ _ _); (with_reducible rename Fr _ _ _ _ => F'); (with_reducible rename News _ _ _ _ => N'); refine slice_ns_mine (s := ⟨_, _, _, _, _⟩) F' N' ?_; intro _ _ _ _ _ _ _))
local macro_rules | `(tactic| walk_at "call type:list") => `(tactic| (k_here; (with_reducible show wpAny _ _ (call (Value.type "list") [Value.ref _]) _ _ _); (rename IsRange _ _ _ _ _ _ _ _ => rgX); (with_unfolding_all refine' my_list_range2 ?k0 ?k1 ?k2 rgX ?k4 ?k5 ?_; (case k0 => rfl); (case k1 => k_asm); (case k2 => k_asm); (case k4 => rfl); (case k5 => omega); k_whole); intro D' vs' c' h' tk' F' N' l1 hI'; (try k_lt l1); (try k_sweep)))
set_option maxRecDepth 100000 in
set_option maxHeartbeats 4000000 in
theorem lev_claim (w : World) (mean : ExcName → Option Value) (mg mb : Str → Option Value) (a b : Str) (mc : Int) (ta tb tm : Tok) (ha : a.length ≤ 40) (hb : b.length ≤ 40) (hAa : Asc a) (hAb : Asc b) :
   TellP PySem.Challenge.rw_pg0335_02.row.prog w (hd02.heap_39 w.params) hd02.view_39 (looseW hd02.view_39 []) mean mg mb 28 [.str a ta, .str b tb, .int mc tm] 5 40 (Told a b mc) := by
  w_top off
  k_fill
  dsimp only [TellP]
  intro dp un gd cn cs aa ccd cl outer A₀ base h₀ L m news s Q E B F X N T hk hd hu hret
  refine wpAny_call ?_
  k_dflt cell_enter
  (rename Fr _ _ _ _ => F0)

  have F00 := fr_start [("max_cost", .int mc tm), ("b", .str b tb), ("a", .str a ta)] (by with_unfolding_all exact F0)
  clear F0
  dsimp only [kstB] at F00
  ktn_open
  · exact hret _ _ _ _ (told_same _ _ _ (by assumption)) (by k_asm) (by k_asm)
  (rename Fr _ _ _ _ => lF')
  (rename News _ _ _ _ => lN')
  refine' j_join (σ := Int × Tok) (fun _ => news) (fun c => [("pre", .int c.1 c.2)]) [] (fun c => 0 ≤ c.1 ∧ c.1 ≤ a.length ∧ c.1 ≤ b.length ∧ Pfx a b c.1) lF' lN' ?wA ?wB
  case wA =>
    k_with "state" => first | exact ⟨by omega, by omega, by omega, pfx_zero _ _⟩ | exact ⟨by omega, by omega, by omega, pfx_step (by assumption) (by assumption) (by omega) (by omega) (by assumption)⟩
    k_while (fun _ (k : Int) => 0 ≤ k ∧ k ≤ a.length ∧ k ≤ b.length ∧ Pfx a b k) (fun _ (k : Int) => (a.length - k).toNat) "pre"
    ktn_open
    all_goals exact j_end ⟨_, _⟩ (by k_asm) (by k_asm) (fun _ h => h) (by kst_all) (by ksw_same) ⟨by assumption, by assumption, by assumption, by assumption⟩
  clear lF' lN'
  rintro ⟨k, tkk⟩ u1 h1 tk1 ⟨k0, ka, kb, kp⟩ F1 N1
  dsimp only at k0 ka kb kp F1 N1
  have F2 := fr_re (m' := kstB (fun _ => none) [("pre", .int k tkk), ("max_cost", .int mc tm), ("b", .str b tb), ("a", .str a ta)]) ["pre", "max_cost", "b", "a"] F1
    (by simp only [List.forall_mem_cons, List.not_mem_nil, false_implies, implies_true, and_true]; refine ⟨?_, ?_, ?_, ?_⟩ <;> with_unfolding_all rfl)
    (by intro z hz; simp only [List.forall_mem_cons, List.not_mem_nil, false_implies, implies_true, and_true, ne_eq] at hz; simp [kstB, hz])
  clear F1
  dsimp only [kstB] at F2
  k_with_none
  dsimp only
  ktn_open
  have hla : (Txt.slice a (some k) none).length ≤ 40 := Nat.le_trans (Txt.slice_le _ _ _) ha
  have hlb : (Txt.slice b (some k) none).length ≤ 40 := Nat.le_trans (Txt.slice_le _ _ _) hb
  have hD := pfx_D kp k0 ka kb
  have hA1 := asc_drop hAa (ls_from k0 ka)
  have hB1 := asc_drop hAb (ls_from k0 kb)
  generalize Txt.slice a (some k) none = a1 at *
  generalize Txt.slice b (some k) none = b1 at *
  (rename Fr _ _ _ _ => lF')
  (rename News _ _ _ _ => lN')
  have F3 := fr_re (m' := kstB (fun _ => none) [("post", .int 0 _), ("b", .str b1 _), ("a", .str a1 _), ("pre", .int k tkk), ("max_cost", .int mc tm)]) ["post", "b", "a", "pre", "max_cost"] lF'
    (by simp only [List.forall_mem_cons, List.not_mem_nil, false_implies, implies_true, and_true]; refine ⟨?_, ?_, ?_, ?_, ?_⟩ <;> with_unfolding_all rfl)
    (by intro z hz; simp only [List.forall_mem_cons, List.not_mem_nil, false_implies, implies_true, and_true, ne_eq] at hz; simp [kstB, hz])
  clear lF'
  dsimp only [kstB] at F3
  refine' j_join (σ := Int × Tok) (fun _ => news) (fun c => [("post", .int c.1 c.2)]) [] (fun c => c.1 ≤ 0 ∧ 0 ≤ c.1 + a1.length ∧ 0 ≤ c.1 + b1.length ∧ Sfx a1 b1 c.1) F3 lN' ?wC ?wD
  case wC =>
    k_with "state" => first | exact ⟨by omega, by omega, by omega, sfx_zero _ _⟩ | exact ⟨by omega, by omega, by omega, sfx_step (by assumption) (by assumption) (by omega) (by omega) (by assumption)⟩
    k_while (fun _ (k : Int) => k ≤ 0 ∧ 0 ≤ k + a1.length ∧ 0 ≤ k + b1.length ∧ Sfx a1 b1 k) (fun _ (k : Int) => (k + a1.length).toNat) "post"
    ktn_open
    all_goals exact j_end ⟨_, _⟩ (by k_asm) (by k_asm) (fun _ h => h) (by kst_all) (by ksw_same) ⟨by assumption, by assumption, by assumption, by assumption⟩
  clear lN' F3
  rintro ⟨p, tkp⟩ u2 h2 tk2 ⟨p0, pa, pb, ps⟩ F4 N4
  dsimp only at p0 pa pb ps F4 N4
  have F5 := fr_re (m' := kstB (fun _ => none) [("post", .int p tkp), ("b", .str b1 _), ("a", .str a1 _), ("pre", .int k tkk), ("max_cost", .int mc tm)]) ["post", "b", "a", "pre", "max_cost"] F4
    (by simp only [List.forall_mem_cons, List.not_mem_nil, false_implies, implies_true, and_true]; refine ⟨?_, ?_, ?_, ?_, ?_⟩ <;> with_unfolding_all rfl)
    (by intro z hz; simp only [List.forall_mem_cons, List.not_mem_nil, false_implies, implies_true, and_true, ne_eq] at hz; simp [kstB, hz])
  clear F4
  dsimp only [kstB] at F5
  k_with_none
  dsimp only
  walk1
  refine' j_join (σ := Str × Tok) (fun _ => news) (fun c => [("a", .str c.1 c.2)]) [] (fun c => ls c.1 = (ls a1).take (a1.length + p).toNat ∧ c.1.length ≤ 40) F5 N4 ?wE ?wF
  case wE =>
    ktn_open
    · exact j_end ⟨_, _⟩ (by k_asm) (by k_asm) (fun _ h => h) (by kst_all) (by ksw_same) ⟨ls_to_neg (by omega) (by omega), Nat.le_trans (Txt.slice_le _ _ _) hla⟩
    · exact j_end ⟨_, _⟩ (by k_asm) (by k_asm) (fun _ h => h) (by kst_all) (by ksw_same) ⟨by (have hp0 : p = 0 := by omega); rw [hp0]; exact (ls_to_zero _).trans (List.take_of_length_le (by rw [ls_len]; omega)).symm, Nat.le_trans (Txt.slice_le _ _ _) hla⟩
  clear F5 N4
  rintro ⟨a2, ta2⟩ u3 h3 tk3 ⟨ea2, la2⟩ F6 N6
  dsimp only at ea2 la2 F6 N6
  have F7 := fr_re (m' := kstB (fun _ => none) [("post", .int p tkp), ("b", .str b1 _), ("a", .str a2 ta2), ("pre", .int k tkk), ("max_cost", .int mc tm)]) ["post", "b", "a", "pre", "max_cost"] F6
    (by simp only [List.forall_mem_cons, List.not_mem_nil, false_implies, implies_true, and_true]; refine ⟨?_, ?_, ?_, ?_, ?_⟩ <;> with_unfolding_all rfl)
    (by intro z hz; simp only [List.forall_mem_cons, List.not_mem_nil, false_implies, implies_true, and_true, ne_eq] at hz; simp [kstB, hz])
  clear F6
  dsimp only [kstB] at F7
  dsimp only
  walk1
  refine' j_join (σ := Str × Tok) (fun _ => news) (fun c => [("b", .str c.1 c.2)]) [] (fun c => ls c.1 = (ls b1).take (b1.length + p).toNat ∧ c.1.length ≤ 40) F7 N6 ?wG ?wH
  case wG =>
    ktn_open
    · exact j_end ⟨_, _⟩ (by k_asm) (by k_asm) (fun _ h => h) (by kst_all) (by ksw_same) ⟨ls_to_neg (by omega) (by omega), Nat.le_trans (Txt.slice_le _ _ _) hlb⟩
    · exact j_end ⟨_, _⟩ (by k_asm) (by k_asm) (fun _ h => h) (by kst_all) (by ksw_same) ⟨by (have hp0 : p = 0 := by omega); rw [hp0]; exact (ls_to_zero _).trans (List.take_of_length_le (by rw [ls_len]; omega)).symm, Nat.le_trans (Txt.slice_le _ _ _) hlb⟩
  clear F7 N6
  rintro ⟨b2, tb2⟩ u4 h4 tk4 ⟨eb2, lb2⟩ F8 N8
  dsimp only at eb2 lb2 F8 N8
  have hA2 := asc_take hA1 ea2
  have hB2 := asc_take hB1 eb2
  have hD2 : D (ls a2) (ls b2) = D (ls a) (ls b) := by rw [ea2, eb2, sfx_D ps, hD]
  have F9 := fr_re (m' := kstB (fun _ => none) [("b", .str b2 tb2), ("a", .str a2 ta2), ("post", .int p tkp), ("pre", .int k tkk), ("max_cost", .int mc tm)]) ["post", "b", "a", "pre", "max_cost"] F8
    (by simp only [List.forall_mem_cons, List.not_mem_nil, false_implies, implies_true, and_true]; refine ⟨?_, ?_, ?_, ?_, ?_⟩ <;> with_unfolding_all rfl)
    (by intro z hz; simp only [List.forall_mem_cons, List.not_mem_nil, false_implies, implies_true, and_true, ne_eq] at hz; simp [kstB, hz])
  clear F8
  dsimp only [kstB] at F9
  dsimp only
  repeat' (first | (k_unfold; (try dsimp only)) | ((fail_if_success (with_reducible show wpAny _ _ (exec (Stmt.If (Expr.Compare _ [CmpOp.Lt] _ _) _ _ _) _) _ _ _)); first | (k_end; wrow_close) | walk1 | (dsimp only; walk1) | (leave1; walk_say "STEP leave1"; try dsimp only) | fail "no step"))
  rotate_left 1
  · exact hret _ _ _ _ (told_empty hD2 (by omega) rfl) (by k_asm) (by k_asm)
  · exact hret _ _ _ _ (told_empty hD2 (by omega) rfl) (by k_asm) (by k_asm)
  refine' j_join (σ := (Str × Tok) × (Str × Tok)) (fun _ => news) (fun c => [("a", .str c.1.1 c.1.2), ("b", .str c.2.1 c.2.2)]) [] (fun c => D (ls c.1.1) (ls c.2.1) = D (ls a) (ls b) ∧ Asc c.1.1 ∧ Asc c.2.1 ∧ 0 < c.1.1.length ∧ c.1.1.length ≤ c.2.1.length ∧ c.2.1.length ≤ 40) F9 N8 ?wI ?wJ
  case wI =>
    ktn_open
    · exact j_end ⟨⟨_, _⟩, _, _⟩ (by k_asm) (by assumption) (by first | exact fun _ h => h | exact fun _ h => List.Mem.tail _ h) (by kst_all) (by ksw_same) ⟨(D_symm _ _).trans hD2, hB2, hA2, by dsimp only; omega, by dsimp only; omega, by dsimp only; omega⟩
    · exact j_end ⟨⟨_, _⟩, _, _⟩ (by k_asm) (by k_asm) (fun _ h => h) (by kst_all) (by ksw_same) ⟨hD2, hA2, hB2, by dsimp only; omega, by dsimp only; omega, by dsimp only; omega⟩
  clear F9 N8
  rintro ⟨⟨a3, ta3⟩, b3, tb3⟩ u5 h5 tk5 ⟨hD3, hA3, hB3, la3, lab, lb3⟩ F10 N10
  dsimp only at hD3 hA3 hB3 la3 lab lb3 F10 N10
  have F11 := fr_re (m' := kstB (fun _ => none) [("b", .str b3 tb3), ("a", .str a3 ta3), ("post", .int p tkp), ("pre", .int k tkk), ("max_cost", .int mc tm)]) ["post", "b", "a", "pre", "max_cost"] F10
    (by simp only [List.forall_mem_cons, List.not_mem_nil, false_implies, implies_true, and_true]; refine ⟨?_, ?_, ?_, ?_, ?_⟩ <;> with_unfolding_all rfl)
    (by intro z hz; simp only [List.forall_mem_cons, List.not_mem_nil, false_implies, implies_true, and_true, ne_eq] at hz; simp [kstB, hz])
  clear F10
  dsimp only [kstB] at F11
  dsimp only
  k_with "pyIter ref" => fail "mine"
  repeat' (first | (k_unfold; (try dsimp only)) | ((fail_if_success (with_reducible show wpAny _ _ (pyIter (Value.ref _)) _ _ _)); first | (k_end; wrow_close) | walk1 | (dsimp only; walk1) | (leave1; walk_say "STEP leave1"; try dsimp only) | fail "no step"))
  · exact hret _ _ _ _ (told_early hD3 (.inl (by omega))) (by k_asm) (by k_asm)
  k_with_none
  k_with "state" => (first
    | exact outer_start _ _ _
    | fail)
  k_state (fun pre res row => Outer (ls a3) (ls b3) pre.length res row) "result" "row"
  rotate_left 1
  · dsimp only
    k_with_none
    ktn_open
    exact hret _ _ _ _ (told_last hD3 kInv (by rw [rangeKs_length]; omega) (by omega)) (by k_asm) (cb_drop (by assumption) (fun _ h => List.Mem.tail _ h))
  k_with "pyIter ref" => fail "mine"
  obtain ⟨j, hj⟩ : ∃ j, j = kPre.length := ⟨_, rfl⟩
  have hjb : j < (ls b3).length := by rw [ls_len]; omega
  have hkN : kN = (j : Int) := by omega
  rw [← hj] at kInv
  repeat' (first | (k_unfold; (try dsimp only)) | ((fail_if_success (with_reducible show wpAny _ _ (pyIter (Value.ref _)) _ _ _)); first | (k_end; wrow_close) | walk1 | (dsimp only; walk1) | (leave1; walk_say "STEP leave1"; try dsimp only) | fail "no step"))
  k_with_none
  k_with "call ref" => (
    (refine' sub_claim w mean mg mb _ _ _ _ ?q1 ?q2 _ _ _ _ _ _ _ _ _ _ _ _ _ _ _ _ _ _ ?k1 ?k2 ?k3 ?k4 ?k5 ?kK ?kd ?ku ?kR)
    (case q1 => omega)
    (case q2 => omega)
    (case k1 => k_asm)
    (case k2 => k_asm)
    (case k3 => k_asm)
    (case k4 => k_asm)
    (case k5 => k_asm)
    (case kK => first | exact rfl | assumption)
    (case kd => ktr_room)
    (case ku => ktr_units)
    intro t9 h9 tk9 F9 N9
    (try dsimp only)
    (try k_fold))
  have hOut := kInv
  k_with "state" => (first
    | exact ⟨hOut.len.trans (ls_len a3), inner_start hOut hjb (by rw [hkN])⟩
    | exact outer_fin (by assumption) la3 hj
    | exact inner_turn hA3 hB3 (by assumption) (by assumption) (by assumption) (by assumption) hkN hjb rfl (Int.le_refl _) (Int.le_of_lt (by assumption))
    | exact inner_turn hA3 hB3 (by assumption) (by assumption) (by assumption) (by assumption) hkN hjb rfl (by first | assumption | exact Int.not_lt.mp (by assumption)) (Int.le_refl _))
  k_state (fun pre d r mn row => row.length = a3.length ∧ Inner (ls a3) (ls b3) j pre.length d r mn row) "distance" "result" "minimum" "row"
  ktn_open
  all_goals exact hret _ _ _ _ (told_early hD3 (.inr (early_fin (by assumption) la3 hjb (by first | assumption | omega)))) (by k_asm) (cb_drop (by assumption) (fun _ h => List.Mem.tail _ (List.mem_append.mpr (.inl h))))
end Mine
end

section
open PySem PySem.W PyProof.Rows PySem.Spec
namespace Mine
def cand (a b : List Nat) (i j : Nat) : Int := 2 * max (i : Int) j + cost (a.getD i 0) (b.getD j 0) + D (a.drop (i + 1)) (b.drop (j + 1))
theorem cand_up (a b : List Nat) (i j : Nat) (hi : i < a.length) (hj : j < b.length) : D a b ≤ cand a b i j := by
  have ea : a = a.take i ++ (a.getD i 0 :: a.drop (i + 1)) := by
    rw [List.getD_eq_getElem?_getD, List.getElem?_eq_getElem hi]
    simp only [Option.getD_some]
    rw [← List.drop_eq_getElem_cons hi, List.take_append_drop]
  have eb : b = b.take j ++ (b.getD j 0 :: b.drop (j + 1)) := by
    rw [List.getD_eq_getElem?_getD, List.getElem?_eq_getElem hj]
    simp only [Option.getD_some]
    rw [← List.drop_eq_getElem_cons hj, List.take_append_drop]
  have h1 := D_le_max (a.take i) (b.take j)
  have h2 : D (a.getD i 0 :: a.drop (i + 1)) (b.getD j 0 :: b.drop (j + 1)) ≤ D (a.drop (i + 1)) (b.drop (j + 1)) + cost (a.getD i 0) (b.getD j 0) := by rw [D_cons]; omega
  have h3 := D_append (a.take i) (b.take j) (a.getD i 0 :: a.drop (i + 1)) (b.getD j 0 :: b.drop (j + 1))
  rw [← ea, ← eb] at h3
  rw [List.length_take, List.length_take] at h1
  unfold cand
  omega
/-- no dearer than any first pair that is kept -/
structure Low (a b : List Nat) (B : Int) : Prop where
  max : B ≤ 2 * max (a.length : Int) b.length
  pairs : ∀ i j, i < a.length → j < b.length → lo (a.getD i 0) = lo (b.getD j 0) → B ≤ cand a b i j
theorem cost_lo {x y : Nat} (h : ¬ lo x = lo y) : cost x y = 2 := by
  unfold cost
  have h1 : ¬ x = y := fun e => h (by rw [e])
  rw [if_neg h1, if_neg h]
theorem low_le {a b : List Nat} {c : Int} (h : Al a b c) : ∀ B, Low a b B → B ≤ c := by
  induction h with
  | nil => intro B hB; have := hB.max; simpa using this
  | @del a b c x h ih =>
    intro B hB
    have := ih (B - 2) ⟨by have := hB.max; simp only [List.length_cons] at this; omega, fun i j hi hj e => by
      have := hB.pairs (i + 1) j (by simp only [List.length_cons]; omega) hj (by simpa using e)
      unfold cand at *
      simp only [List.getD_cons_succ, List.drop_succ_cons] at this
      omega⟩
    omega
  | @ins a b c y h ih =>
    intro B hB
    have := ih (B - 2) ⟨by have := hB.max; simp only [List.length_cons] at this; omega, fun i j hi hj e => by
      have := hB.pairs i (j + 1) hi (by simp only [List.length_cons]; omega) (by simpa using e)
      unfold cand at *
      simp only [List.getD_cons_succ, List.drop_succ_cons] at this
      omega⟩
    omega
  | @sub a b c x y h ih =>
    intro B hB
    by_cases g : lo x = lo y
    · have := hB.pairs 0 0 (by simp) (by simp) (by simpa using g)
      unfold cand at this
      simp only [List.getD_cons_zero, List.drop_succ_cons, Nat.zero_add, List.drop_zero] at this
      have := D_le h
      omega
    · rw [cost_lo g]
      have := ih (B - 2) ⟨by have := hB.max; simp only [List.length_cons] at this; omega, fun i j hi hj e => by
        have := hB.pairs (i + 1) (j + 1) (by simp only [List.length_cons]; omega) (by simp only [List.length_cons]; omega) (by simpa using e)
        unfold cand at *
        simp only [List.getD_cons_succ, List.drop_succ_cons] at this
        omega⟩
      omega
/-- the outer loop of the price -/
structure PO (a b : List Nat) (i : Nat) (best : Int) : Prop where
  up : D a b ≤ best
  max : best ≤ 2 * max (a.length : Int) b.length
  pairs : ∀ i' j', i' < i → i' < a.length → j' < b.length → lo (a.getD i' 0) = lo (b.getD j' 0) → best ≤ cand a b i' j'
structure PI (a b : List Nat) (i j : Nat) (best : Int) : Prop where
  out : PO a b i best
  here : ∀ j', j' < j → j' < b.length → lo (a.getD i 0) = lo (b.getD j' 0) → best ≤ cand a b i j'
theorem po_start (a b : List Nat) {best : Int} (h : best = 2 * max (a.length : Int) b.length) : PO a b 0 best :=
  ⟨by rw [h]; exact D_le_max a b, by omega, fun _ _ h => absurd h (Nat.not_lt_zero _)⟩
theorem po_end {a b : List Nat} {best : Int} (h : PO a b a.length best) : best = D a b := by
  have h1 := h.up
  have h2 := low_le (Al_D a b) best ⟨h.max, fun i j hi hj e => h.pairs i j hi hi hj e⟩
  omega
theorem pi_start {a b : List Nat} {i : Nat} {best : Int} (h : PO a b i best) : PI a b i 0 best := ⟨h, fun _ h => absurd h (Nat.not_lt_zero _)⟩
theorem pi_end {a b : List Nat} {i : Nat} {best : Int} (h : PI a b i b.length best) : PO a b (i + 1) best :=
  ⟨h.out.up, h.out.max, fun i' j' h1 h2 h3 e => by
    by_cases g : i' = i
    · subst g; exact h.here j' h3 h3 e
    · exact h.out.pairs i' j' (by omega) h2 h3 e⟩
theorem pi_skip {a b : List Nat} {i j : Nat} {best : Int} (h : PI a b i j best) (e : ¬ lo (a.getD i 0) = lo (b.getD j 0)) : PI a b i (j + 1) best :=
  ⟨h.out, fun j' h1 h2 e' => by
    by_cases g : j' = j
    · subst g; exact absurd e' e
    · exact h.here j' (by omega) h2 e'⟩
theorem pi_take {a b : List Nat} {i j : Nat} {best best' : Int} (h : PI a b i j best) (hi : i < a.length) (hj : j < b.length) (e : best' = min best (cand a b i j)) : PI a b i (j + 1) best' := by
  have hc := cand_up a b i j hi hj
  have hu := h.out.up
  have hm := h.out.max
  refine ⟨⟨by omega, by omega, fun i' j' h1 h2 h3 e' => ?_⟩, fun j' h1 h2 e' => ?_⟩
  · have := h.out.pairs i' j' h1 h2 h3 e'
    omega
  · by_cases g : j' = j
    · subst g; omega
    · have := h.here j' (by omega) h2 e'
      omega
end Mine
namespace Mine
theorem lower_eq_iff {a b : Str} (hA : Asc a) (hB : Asc b) {i j : Int} (hi : 0 ≤ i) (hi2 : i < a.length) (hj : 0 ≤ j) (hj2 : j < b.length) :
    ((Txt.lower (Txt.item a i) == Txt.lower (Txt.item b j)) = true) ↔ lo ((ls a).getD i.toNat 0) = lo ((ls b).getD j.toNat 0) := by
  rw [item_in hi hi2, item_in hj hj2, lower1 (asc_at hA _), lower1 (asc_at hB _)]
  constructor
  · intro h; exact sgl_inj (beq_iff_eq.mp h)
  · intro h; rw [h]; exact beq_self_eq_true _
theorem item_eq_iff {a b : Str} {i j : Int} (hi : 0 ≤ i) (hi2 : i < a.length) (hj : 0 ≤ j) (hj2 : j < b.length) :
    ((Txt.item a i == Txt.item b j) = true) ↔ (ls a).getD i.toNat 0 = (ls b).getD j.toNat 0 := by
  rw [item_in hi hi2, item_in hj hj2]
  constructor
  · intro h; exact sgl_inj (beq_iff_eq.mp h)
  · intro h; rw [h]; exact beq_self_eq_true _
section
variable {a b : Str} (hA : Asc a) (hB : Asc b) {i : Nat} {pre : List Int} {ki kN best : Int} (h : PI (ls a) (ls b) i pre.length best) (hk : kN = 0 + (pre.length : Int)) (hlt : pre.length < ((b.length : Int) - 0).toNat) (hki : ki = (i : Int)) (hia : i < a.length)
include hA hB h hk hlt hki hia
theorem price_skip (e : (Txt.lower (Txt.item a ki) == Txt.lower (Txt.item b kN)) = false) : PI (ls a) (ls b) i (pre ++ [kN]).length best := by
  have e1 : kN.toNat = pre.length := by omega
  have e2 : (pre ++ [kN]).length = pre.length + 1 := by simp
  have e3 : ki.toNat = i := by omega
  have hh := lower_eq_iff hA hB (i := ki) (j := kN) (by omega) (by omega) (by omega) (by omega)
  rw [e1, e3] at hh
  rw [e2]
  refine pi_skip h fun g => ?_
  rw [hh.mpr g] at e; cases e
theorem price_take (e : (Txt.lower (Txt.item a ki) == Txt.lower (Txt.item b kN)) = true) {c v : Int} (hc : (Txt.item a ki == Txt.item b kN) = true ∧ c = 0 ∨ (Txt.item a ki == Txt.item b kN) = false ∧ c = 1)
    (hv : v = if (2 * if kN > ki then kN else ki) + c + D (ls (Txt.slice a (some (ki + 1)) none)) (ls (Txt.slice b (some (kN + 1)) none)) < best then (2 * if kN > ki then kN else ki) + c + D (ls (Txt.slice a (some (ki + 1)) none)) (ls (Txt.slice b (some (kN + 1)) none)) else best) :
    PI (ls a) (ls b) i (pre ++ [kN]).length v := by
  have e1 : kN.toNat = pre.length := by omega
  have e2 : (pre ++ [kN]).length = pre.length + 1 := by simp
  have e3 : ki.toNat = i := by omega
  have hh := (lower_eq_iff hA hB (i := ki) (j := kN) (by omega) (by omega) (by omega) (by omega)).mp e
  have hi := item_eq_iff (a := a) (b := b) (i := ki) (j := kN) (by omega) (by omega) (by omega) (by omega)
  rw [e1, e3] at hh hi
  have hcost : c = cost ((ls a).getD i 0) ((ls b).getD pre.length 0) := by
    unfold cost
    rcases hc with ⟨h1, h2⟩ | ⟨h1, h2⟩
    · rw [if_pos (hi.mp h1)]; exact h2
    · rw [if_neg (fun g => by rw [hi.mpr g] at h1; cases h1), if_pos hh]; exact h2
  rw [e2]
  refine pi_take h (by rw [ls_len]; exact hia) (by rw [ls_len]; omega) ?_
  have e4 : (ki + 1).toNat = i + 1 := by omega
  have e5 : (kN + 1).toNat = pre.length + 1 := by omega
  rw [hv, ls_from (by omega) (by omega), ls_from (by omega) (by omega), e4, e5, hcost]
  unfold cand
  split <;> split <;> omega
end
theorem price_outer {a b : Str} {i : Nat} {pre : List Int} {kN best : Int} (h : PI (ls a) (ls b) i (rangeKs 0 ((b.length : Int) - 0).toNat).length best) (hi : i = pre.length) : PO (ls a) (ls b) (pre ++ [kN]).length best := by
  rw [rangeKs_length, Int.sub_zero, Int.toNat_natCast, ← ls_len b] at h
  have e2 : (pre ++ [kN]).length = i + 1 := by simp [hi]
  rw [e2]
  exact pi_end h
theorem price_first {a b : Str} {B : Int} (h : B = 2 * if (b.length : Int) > a.length then (b.length : Int) else a.length) : PO (ls a) (ls b) ([] : List Int).length B :=
  po_start _ _ (by rw [h, ls_len, ls_len]; split <;> omega)
theorem price_done {a b : Str} {best : Int} (h : PO (ls a) (ls b) (rangeKs 0 ((a.length : Int) - 0).toNat).length best) : best = D (ls a) (ls b) := by
  rw [rangeKs_length, Int.sub_zero, Int.toNat_natCast, ← ls_len a] at h
  exact po_end h
end Mine
end

section
open PySem PySem.W PyProof.Rows PySem.Spec
namespace Mine
def Good (ws : List Str) : Prop := ∀ x ∈ ws, x.length ≤ 2 ∧ Asc x
theorem ls_append (x y : Str) : ls (x ++ y) = ls x ++ ls y := by
  show (x ++ y).cps.toList = _
  rw [Str.cps_append, Array.toList_append]; rfl
theorem asc_append {x y : Str} (hx : Asc x) (hy : Asc y) : Asc (x ++ y) := fun c hc => by
  rw [ls_append] at hc
  rcases List.mem_append.mp hc with h | h
  · exact hx c h
  · exact hy c h
theorem asc_one {n : Nat} (h : n < 128) : Asc ⟨#[n]⟩ := fun c hc => by
  have : c = n := by simpa [ls] using hc
  subst this; exact h
theorem code_lt {x : Str} (hA : Asc x) {pre post : List Int} {n : Nat} (e : KStt.codes x = pre ++ (n : Int) :: post) : n < 128 := by
  have h : (n : Int) ∈ KStt.codes x := by rw [e]; simp
  unfold KStt.codes at h
  obtain ⟨c, hc, e2⟩ := List.mem_map.mp h
  have : c = n := by omega
  subst this
  exact hA c hc
theorem code_len {x : Str} {pre post : List Int} {n : Nat} (e : KStt.codes x = pre ++ (n : Int) :: post) : pre.length < x.length := by
  have h := congrArg List.length e
  rw [KStt.codes_length, List.length_append, List.length_cons] at h
  omega
theorem good_first : Good [Str.ofString ""] := fun x hx => by
  have : x = Str.ofString "" := by simpa using hx
  subst this
  have e : ls (Str.ofString "") = [] := by decide +kernel
  exact ⟨by decide +kernel, fun c hc => by rw [e] at hc; cases hc⟩
theorem good_snoc {ws : List Str} (h : Good ws) {y : Str} (hl : y.length ≤ 2) (hA : Asc y) : Good (ws ++ [y]) := fun x hx => by
  rcases List.mem_append.mp hx with g | g
  · exact h x g
  · have : x = y := by simpa using g
    subst this; exact ⟨hl, hA⟩
section
variable {prog : Program} {w : World} {A : Around} {E : Value → Shared → Prop} {s : Shared} {x : Str} {t : Tok} {value slice : PySem.Expr} {Q : Value → Shared → Prop}
theorem item_fmod3 {k : Int} {u : Tok} (hx : x.length = 3) (h : Q (.str (Txt.item x (k.fmod 3)) s.toks) { s with toks := s.toks + 1 })
    (hs : subscripted slice false (.str x t) (.int (k.fmod 3) u) = operate [.str x t, .int (k.fmod 3) u] (getItem (.str x t) (.int (k.fmod 3) u)) := by with_unfolding_all rfl)
    (ht : ∀ r, letTemporaryGo value (.str x t) r = pure () := by intro _; with_unfolding_all rfl) :
    wpAny (model prog w) A (subscriptTail value slice (.str x t) (.int (k.fmod 3) u)) Q E s := by
  exact item_str_fmod (by decide) (by omega) (by omega) (fun _ => h) hs ht
end
end Mine
end

section
open PySem PySem.W PyProof.Rows PySem.Spec
namespace Mine
theorem word_ls {sg : Str} (h3 : sg.length = 3) (nums : List Int) :
    ls (Txt.join (Str.ofString "") (nums.map fun k => Txt.item sg (k.fmod 3))) = nums.map fun k => (ls sg).getD (k.fmod 3).toNat 0 := by
  have e0 : Txt.join (Str.ofString "") (nums.map fun k => Txt.item sg (k.fmod 3)) = Str.join (Str.ofString "") (nums.map fun k => Txt.item sg (k.fmod 3)) := StrLaws.glued_eq_join _ _
  have e1 : (nums.map fun k => Txt.item sg (k.fmod 3)) = (nums.map fun k => (ls sg).getD (k.fmod 3).toNat 0).map fun c => (⟨#[c]⟩ : Str) := by
    rw [List.map_map]
    apply List.map_congr_left
    intro k _
    have h1 : 0 ≤ k.fmod 3 := Int.fmod_nonneg_of_pos _ (by decide)
    have h2 : k.fmod 3 < 3 := Int.fmod_lt_of_pos _ (by decide)
    exact item_in h1 (by omega)
  have e2 : Str.ofString "" = ⟨#[]⟩ := by decide +kernel
  rw [e0, e1, e2, PyProof.Rows.join_ones]
  rfl
theorem word_len {sg : Str} (h3 : sg.length = 3) (nums : List Int) : (Txt.join (Str.ofString "") (nums.map fun k => Txt.item sg (k.fmod 3))).length = nums.length := by
  rw [← ls_len, word_ls h3, List.length_map]
theorem word_asc {sg : Str} (h3 : sg.length = 3) (hA : Asc sg) (nums : List Int) : Asc (Txt.join (Str.ofString "") (nums.map fun k => Txt.item sg (k.fmod 3))) := fun c hc => by
  rw [word_ls h3] at hc
  obtain ⟨k, _, rfl⟩ := List.mem_map.mp hc
  exact asc_at hA _
theorem signs_asc {code : Int} (h0 : 0 ≤ code) (h1 : code < 25) : Asc ((⟨#[(97 + code).toNat]⟩ : Str) ++ ⟨#[(65 + code).toNat]⟩ ++ ⟨#[(98 + code).toNat]⟩) :=
  asc_append (asc_append (asc_one (by omega)) (asc_one (by omega))) (asc_one (by omega))
end Mine
end

section
open PySem PySem.W PyProof.Rows PySem.Calls PySem.Spec
namespace Mine
set_option maxRecDepth 100000 in
set_option maxHeartbeats 4000000 in
theorem price_step (w : World) (mean : ExcName → Option Value) (mg mb : Str → Option Value) (n : Nat) (hn : n ≤ 12)
  (IH : ∀ (a b : Str) (ta tb : Tok), a.length + b.length + 2 ≤ n → Asc a → Asc b →
    TellI PySem.Challenge.rw_pg0335_02.row.prog w (hd02.heap_39 w.params) hd02.view_39 (looseW hd02.view_39 []) mean mg mb 35 [.str a ta, .str b tb] (n + 2) (10 * n + 40) (D (ls a) (ls b)))
   (a b : Str) (ta tb : Tok) (hl : a.length + b.length ≤ n) (hA : Asc a) (hB : Asc b) :
   TellI PySem.Challenge.rw_pg0335_02.row.prog w (hd02.heap_39 w.params) hd02.view_39 (looseW hd02.view_39 []) mean mg mb 35 [.str a ta, .str b tb] (n + 4) (10 * n + 60) (D (ls a) (ls b)) := by
  w_top off
  k_fill
  dsimp only [TellI]
  intro dp un gd cn cs aa ccd cl outer A₀ base h₀ L m news s Q E B F X N T hk hd hu hret
  refine wpAny_call ?_
  k_dflt cell_enter
  (rename Fr _ _ _ _ => F0)
  have F00 := fr_start [("other", .str b tb), ("one", .str a ta)] (by with_unfolding_all exact F0)
  clear F0
  dsimp only [kstB] at F00
  k_with_none
  k_with "pyIter ref" => fail "mine"
  repeat' (first | (k_unfold; (try dsimp only)) | ((fail_if_success (with_reducible show wpAny _ _ (pyIter (Value.ref _)) _ _ _)); first | (k_end; wrow_close) | walk1 | (dsimp only; walk1) | (leave1; walk_say "STEP leave1"; try dsimp only) | fail "no step"))
  k_with_none
  k_with "state" => (first | exact price_first rfl | exact price_outer (by assumption) hi | fail)
  k_state (fun pre best => PO (ls a) (ls b) pre.length best) "best"
  rotate_left 1
  · dsimp only
    k_with_none
    k_steps
    all_goals (refine cb_retI hret (price_done kInv) (by k_asm) (by k_asm))
  k_with "pyIter ref" => fail "mine"
  obtain ⟨i, hi⟩ : ∃ i, i = kPre.length := ⟨_, rfl⟩
  have hia : i < a.length := by omega
  have hkN : kN = (i : Int) := by omega
  rw [← hi] at kInv
  repeat' (first | (k_unfold; (try dsimp only)) | ((with_reducible show InvEndN _ _ _ _ _ _ _); ((rename News _ _ _ _ => nE'); (refine' kst_end ⟨_, _⟩ (by assumption) nE' ?fA ?fB (by rfl) ?f1 ?f2 ?f3 ?f4; (case fA => exact fun p hp => List.mem_append_left _ hp); (case fB => exact fun p hp => List.mem_append_right _ hp); (case f1 => kst_facts); (case f2 => kst_all); (case f3 => kst_same); (case f4 => kst_p)))) | ((fail_if_success (with_reducible show wpAny _ _ (pyIter (Value.ref _)) _ _ _)); first | (k_end; wrow_close) | walk1 | (dsimp only; walk1) | (leave1; walk_say "STEP leave1"; try dsimp only) | fail "no step"))
  k_with_none
  k_with "call ref" => (first
   | (
    (refine' IH _ _ _ _ ?q1 ?q2 ?q3 _ _ _ _ _ _ _ _ _ _ _ _ _ _ _ _ _ _ ?k1 ?k2 ?k3 ?k4 ?k5 ?kK ?kd ?ku ?kR)
    (case q1 => rw [← ls_len, ← ls_len, ls_from (by omega) (by omega), ls_from (by omega) (by omega), List.length_drop, List.length_drop, ls_len, ls_len]; omega)
    (case q2 => exact asc_drop hA (ls_from (by omega) (by omega)))
    (case q3 => exact asc_drop hB (ls_from (by omega) (by omega)))
    (case k1 => k_asm)
    (case k2 => k_asm)
    (case k3 => k_asm)
    (case k4 => k_asm)
    (case k5 => k_asm)
    (case kK => first | exact rfl | assumption)
    (case kd => ktr_room)
    (case ku => ktr_units)
    intro t9 h9 tk9 F9 N9
    (try dsimp only)
    (try k_fold))
   | (
    (refine' IH _ _ _ _ ?zq1 ?zq2 ?zq3 _ _ _ _ _ _ _ _ _ _ _ _ _ _ _ _ _ _ ?zk1 ?zk2 ?zk3 ?zk4 ?zk5 ?zkK ?zkd ?zku ?zkR)
    (case zq1 => rw [← ls_len, ← ls_len, ls_from (by omega) (by omega), ls_from (by omega) (by omega), List.length_drop, List.length_drop, ls_len, ls_len]; omega)
    (case zq2 => exact asc_drop hA (ls_from (by omega) (by omega)))
    (case zq3 => exact asc_drop hB (ls_from (by omega) (by omega)))
    (case zk1 => k_asm)
    (case zk2 => k_asm)
    (case zk3 => k_asm)
    (case zk4 => k_asm)
    (case zk5 => k_asm)
    (case zkK => first | exact rfl | assumption)
    (case zkd => ktr_room)
    (case zku => ktr_units)
    intro t9 h9 tk9 F9 N9
    (try dsimp only)
    (try k_fold)))
  have hOut := kInv
  k_with "state" => (first
    | exact pi_start hOut
    | exact price_outer (by assumption) hi
    | exact price_skip hA hB (by assumption) (by assumption) (by assumption) hkN hia (by assumption)
    | exact price_take hA hB (by assumption) (by assumption) (by assumption) hkN hia (by assumption) (.inl ⟨by assumption, rfl⟩) rfl
    | exact price_take hA hB (by assumption) (by assumption) (by assumption) hkN hia (by assumption) (.inr ⟨by assumption, rfl⟩) rfl
    | fail)
  k_state (fun pre best => PI (ls a) (ls b) i pre.length best) "best"
  repeat' (first | (k_unfold; (try dsimp only)) | ((with_reducible show InvEndN _ _ _ _ _ _ _); ((rename News _ _ _ _ => nE'); (refine' kst_end ⟨_, _⟩ (by assumption) nE' ?fA ?fB (by rfl) ?f1 ?f2 ?f3 ?f4; (case fA => exact fun p hp => List.mem_append_left _ hp); (case fB => exact fun p hp => List.mem_append_right _ hp); (case f1 => kst_facts); (case f2 => kst_all); (case f3 => kst_same); (case f4 => kst_p)))) | ((fail_if_success (with_reducible show wpAny _ _ (pyIter (Value.ref _)) _ _ _)); first | (k_end; wrow_close) | walk1 | (dsimp only; walk1) | (leave1; walk_say "STEP leave1"; try dsimp only) | fail "no step"))
theorem price_claim (w : World) (mean : ExcName → Option Value) (mg mb : Str → Option Value) : ∀ (n : Nat), n ≤ 12 →
   ∀ (a b : Str) (ta tb : Tok), a.length + b.length ≤ n → Asc a → Asc b →
   TellI PySem.Challenge.rw_pg0335_02.row.prog w (hd02.heap_39 w.params) hd02.view_39 (looseW hd02.view_39 []) mean mg mb 35 [.str a ta, .str b tb] (n + 4) (10 * n + 60) (D (ls a) (ls b)) := by
  intro n
  induction n using Nat.strongRecOn with
  | _ n ih =>
    intro hn a b ta tb hl hA hB
    refine price_step w mean mg mb n hn (fun a' b' ta' tb' h' hA' hB' => ?_) a b ta tb hl hA hB
    obtain ⟨k, rfl⟩ : ∃ k, n = k + 2 := ⟨n - 2, by omega⟩
    have := ih k (by omega) (by omega) a' b' ta' tb' (by omega) hA' hB'
    have e1 : k + 4 = k + 2 + 2 := by omega
    have e2 : 10 * k + 60 = 10 * (k + 2) + 40 := by omega
    rw [e1, e2] at this
    exact this
end Mine
end

section
open PySem PySem.W PyProof.Rows PySem.Calls PySem.Spec
namespace Mine
set_option maxRecDepth 100000 in
set_option maxHeartbeats 4000000 in
theorem short_claim (w : World) (mean : ExcName → Option Value) (mg mb : Str → Option Value) (x : Str) (tx : Tok) (hx : x.length = 3) (hA : Asc x) :
   TellS PySem.Challenge.rw_pg0335_02.row.prog w (hd02.heap_39 w.params) hd02.view_39 (looseW hd02.view_39 []) mean mg mb 42 [.str x tx] 4 60 (fun ws => ws.length ≤ 13 ∧ Good ws) := by
  w_top off
  k_fill
  dsimp only [TellS]
  intro dp un gd cn cs aa ccd cl outer A₀ base h₀ L m news s Q E B F X N T hk hd hu hret
  refine wpAny_call ?_
  k_dflt cell_enter
  (rename Fr _ _ _ _ => F0)
  have F00 := fr_start [("signs", .str x tx)] (by with_unfolding_all exact F0)
  clear F0
  dsimp only [kstB] at F00
  k_with_none
  k_with "pyIter str" => fail "mine"
  repeat' (first | (k_unfold; (try dsimp only)) | ((fail_if_success (with_reducible show wpAny _ _ (pyIter (Value.str _ _)) _ _ _)); first | (k_end; wrow_close) | walk1 | (dsimp only; walk1) | (leave1; walk_say "STEP leave1"; try dsimp only) | fail "no step"))
  k_with_none
  (rename Fr _ _ _ _ => lF')
  (rename News _ _ _ _ => lN')
  refine' KStt.kst_text (σ := List Value × List Str × Nat) (fun c => (_, listOf c.1.toArray c.2.2) :: news) (fun _ => []) (fun c => StrsAre c.1 c.2.1) [Str.ofString "other"] (fun pre c => c.2.1.length = 1 + 4 * pre.length ∧ Good c.2.1) ⟨[.str (Str.ofString "") _], [Str.ofString ""], _⟩ rfl lF' lN' (.cons _ _ .nil) (List.forall_mem_nil _) ⟨rfl, good_first⟩ ?turn ?done
  case done =>
    rintro ⟨us, ws, c⟩ u h1 tk1 hS ⟨hlen, hG⟩ F1 N1
    dsimp only at hS hlen hG F1 N1
    dsimp only
    k_steps
    exact hret _ us ws c _ _ ⟨by rw [hlen, KStt.codes_length]; omega, hG⟩ hS (by k_asm) (by assumption) (by first | assumption | exact kst_ltOf (by assumption))
  case turn =>
    rintro ⟨us, ws, c⟩ pre post n t u h1 tk1 own he hoff hS ⟨hlen, hG⟩ F1 N1
    dsimp only at hS hlen hG F1 N1
    dsimp only [kstB] at F1
    have hn := code_lt hA he
    have hl := code_len he
    have hus : us.length = ws.length := hS.length
    have kMark := kstMark
    simp only [List.map_cons] at hoff
    simp only [List.cons_append] at N1
    k_with "pyIter str" => fail "mine"
    repeat' (first | (k_unfold; (try dsimp only)) | ((fail_if_success (with_reducible show wpAny _ _ (pyIter (Value.str _ _)) _ _ _)); first | (k_end; wrow_close) | walk1 | (dsimp only; walk1) | (leave1; walk_say "STEP leave1"; try dsimp only) | fail "no step"))
    k_with_none
    (rename Fr _ _ _ _ => lF')
    (rename News _ _ _ _ => lN')
    (try simp only [List.push_toArray] at lN')
    have hG1 : Good (ws ++ [⟨#[n]⟩]) := good_snoc hG (by show 1 ≤ 2; omega) (asc_one hn)
    refine' KStt.kst_text (σ := List Value × List Str × Nat) (fun c => (_, listOf c.1.toArray c.2.2) :: (news ++ own)) (fun _ => []) (fun c => StrsAre c.1 c.2.1) [] (fun pr c => c.2.1.length = 2 + 4 * pre.length + pr.length ∧ Good c.2.1) ⟨us ++ [.str ⟨#[n]⟩ t], ws ++ [⟨#[n]⟩], c + 1⟩ rfl lF' lN' (KStt.strs_snoc hS) (List.forall_mem_nil _) ⟨by simp [hlen]; omega, hG1⟩ ?turn2 ?done2
    case done2 =>
      rintro ⟨us2, ws2, c2⟩ u2 h2 tk2 hS2 ⟨hlen2, hG2⟩ F2 N2
      dsimp only at hS2 hlen2 hG2 F2 N2
      dsimp only [kstB] at F2
      dsimp only
      repeat' (first | (k_unfold; (try dsimp only)) | ((fail_if_success (with_reducible show InvEndN _ _ _ _ _ _ _)); first | walk1 | (dsimp only; walk1) | fail "no step"))
      (rename News _ _ _ _ => nE')
      refine' kst_end ⟨us2, ws2, c2⟩ (by assumption) nE' mem_l1 mem_l2 (by rfl) hS2 (List.forall_mem_nil _) ?g3 ?g4
      case g3 => kst_same
      case g4 => exact ⟨by rw [KStt.codes_length] at hlen2; simp only [List.length_append, List.length_cons, List.length_nil]; omega, hG2⟩
    case turn2 =>
      rintro ⟨us2, ws2, c2⟩ pre2 post2 n2 t2 u2 h2 tk2 own2 he2 hoff2 hS2 ⟨hlen2, hG2⟩ F2 N2
      dsimp only at hS2 hlen2 hG2 F2 N2
      dsimp only [kstB] at F2
      have hn2 := code_lt hA he2
      have hl2 := code_len he2
      have hus2 : us2.length = ws2.length := hS2.length
      have kMark := kstMark
      simp only [List.map_cons] at hoff2
      simp only [List.cons_append] at N2
      repeat' (first | (k_unfold; (try dsimp only)) | ((fail_if_success (with_reducible show InvEndN _ _ _ _ _ _ _)); first | walk1 | (dsimp only; walk1) | fail "no step"))
      (rename News _ _ _ _ => nE')
      simp only [List.push_toArray] at nE'
      refine' kst_end ⟨_, ws2 ++ [⟨#[n]⟩ ++ ⟨#[n2]⟩], _⟩ (by assumption) nE' mem_l1 mem_l2 (by rfl) (KStt.strs_snoc hS2) (List.forall_mem_nil _) ?f3 ?f4
      case f3 => kst_same
      case f4 => exact ⟨by simp [hlen2]; omega, good_snoc hG2 (by rw [← ls_len, ls_append]; exact Nat.le_refl 2) (asc_append (asc_one hn) (asc_one hn2))⟩
end Mine
end

section
open PySem PySem.W PyProof.Rows PySem.Calls PySem.Spec
namespace Mine
section
variable {prog : Program} {w : World} {A : Around} {E : Value → Shared → Prop} {s : Shared} {env : Env} {h₀ : Heap} {x : Str} {body : List Stmt} {Q : Flow → Shared → Prop}
/-- a loop over a list of the call's own, whatever it holds, that no turn changes: what holds of the number of items taken -/
theorem loop_vals {σ : Type} {l : Addr} {vs : List Value} {nn : Nat} {m₀ : Str → Option Value} (Led : σ → List (Addr × Obj)) (ps : σ → List (Str × Value)) (Facts : σ → Prop) (stored : List Str) (P : List Int → σ → Prop) (c₀ : σ)
    (hh : A.handled = none) (hl : ∀ c : σ, (l, listOf vs.toArray nn) ∈ Led c) (F : Fr h₀ env.locals s.heap m₀) (N : News h₀ env.locals s.heap (Led c₀)) (hf : Facts c₀) (hk : ∀ p ∈ ps c₀, m₀ p.1 = some p.2) (hp : P [] c₀)
    (turn : ∀ (c : σ) (pre : List Int) v (u : Str → Option Value) h tk own, vs[pre.length]? = some v → OwnOff own ((Led c₀).map (·.1)) → Facts c → P pre c → 
      Fr h₀ env.locals h (fun y => if y = x then some v else kstB (fun z => if stored.contains z then u z else m₀ z) (ps c) y) → News h₀ env.locals h (Led c ++ own) →
      wpAny (model prog w) A (execs body env) (InvPostN h₀ env.locals (KstS Led ps Facts x stored m₀ P (pre ++ [0])) own ((Led c₀).map (·.1)) { s with heap := h, toks := tk } Q) E { s with heap := h, toks := tk })
    (done : ∀ (c : σ) (pre : List Int) (u : Str → Option Value) h tk, pre.length = vs.length → Facts c → P pre c → Fr h₀ env.locals h (fun y => if y = x then u y else kstB (fun z => if stored.contains z then u z else m₀ z) (ps c) y) → News h₀ env.locals h (Led c) → Q .next { s with heap := h, toks := tk }) :
    wpAny (model prog w) A (pyIter (.ref l)) (fun it s₂ => LoopAtV prog w A h₀ env x body Q E it s₂) E s := by
  refine iter_listUnr hh F N (hl c₀) rfl rfl (fun I hI => ?_)
  have key : ∀ (r : List Value) (pre : List Int) (m : Str → Option Value) (nx : List (Addr × Obj)), vs.drop pre.length = r → pre.length ≤ vs.length → nx.map (·.1) = (Led c₀).map (·.1) → KstS Led ps Facts x stored m₀ P pre m nx →
      ListRest prog w A E h₀ env x body Q s I (l, listOf vs.toArray nn) r m nx := by
    intro r
    induction r with
    | nil =>
      rintro pre m nx hd hle _ ⟨c, rfl, hf', h1, h2, hp'⟩
      refine ListRest.zero fun h tk F₁ N₁ => ?_
      have hlen : pre.length = vs.length := by
        have := congrArg List.length hd
        rw [List.length_drop, List.length_nil] at this
        omega
      exact done c pre m h tk hlen hf' hp' (kst_frOut h1 h2 F₁) N₁
    | cons v r ih =>
      rintro pre m nx hd hle hadr ⟨c, rfl, hf', h1, h2, hp'⟩
      refine ListRest.succ fun it h tk hit F₁ N₁ => ?_
      have hv : vs[pre.length]? = some v := by
        have := congrArg (fun q => q[0]?) hd
        simpa using this
      have hlt : pre.length < vs.length := (List.getElem?_eq_some_iff.mp hv).1
      have hnext : vs.drop (pre ++ [0]).length = r := by
        rw [List.length_append, List.length_singleton, ← List.drop_drop, hd]
        rfl
      have hoff : OwnOff [(I, it)] ((Led c₀).map (·.1)) := by
        intro p hp b hb e
        rw [List.mem_singleton.mp hp] at e
        obtain ⟨q, hq, rfl⟩ := List.mem_map.mp hb
        exact absurd (hI q hq) (by rw [← e]; exact Nat.lt_irrefl _)
      have N₂ : News h₀ env.locals h (Led c ++ [(I, it)]) := fun p hp => N₁ p (by
        rcases List.mem_append.mp hp with g | g
        · exact List.mem_cons_of_mem _ g
        · rw [List.mem_singleton.mp g]; exact List.mem_cons_self ..)
      refine wpAny_mono (turn c pre v m h tk [(I, it)] hv hoff hf' hp' (kst_fr h1 h2 F₁) N₂) (fun f s₂ p => ?_) fun _ _ e => e
      have fin : InvEndN h₀ env.locals (KstS Led ps Facts x stored m₀ P (pre ++ [0])) [(I, it)] ((Led c₀).map (·.1)) { s with heap := h, toks := tk } s₂ →
          UnrEnd h₀ env.locals { s with heap := h, toks := tk } I it (fun m' n' => (l, listOf vs.toArray nn) ∈ n' ∧ ListRest prog w A E h₀ env x body Q s I (l, listOf vs.toArray nn) r m' n') s₂ := by
        rintro ⟨h', tk', m', news', nx', e, F', N', hn, ho, ha, hS⟩
        refine ⟨h', tk', m', nx', e, F', fun p hp => N' p ?_, fun p hp e' => ?_, ?_, ?_⟩
        · rcases List.mem_cons.mp hp with rfl | g
          · exact ho _ (List.mem_singleton.mpr rfl)
          · exact hn p g
        · have h3 : p.1 ∈ nx'.map (·.1) := List.mem_map.mpr ⟨p, hp, rfl⟩
          rw [ha] at h3
          obtain ⟨q, hq, e3⟩ := List.mem_map.mp h3
          exact absurd (hI q hq) (by rw [e3, e']; exact Nat.lt_irrefl _)
        · obtain ⟨c', rfl, _⟩ := hS
          exact hl c'
        · exact ih (pre ++ [0]) m' nx' hnext (by rw [List.length_append, List.length_singleton]; omega) ha hS
      cases f with
      | ret v => exact p
      | brk => exact p
      | next => exact fin p
      | cont => exact fin p
  exact key vs [] m₀ (Led c₀) rfl (Nat.zero_le _) rfl ⟨c₀, rfl, hf, hk, fun _ _ _ _ => rfl, hp⟩
/-- a loop over a written tuple of the call's own that stores nothing that is asked for: what it does not change -/
theorem loop_tup {ax : Addr} {vs : List Value} {nn : Nat} {m₀ : Str → Option Value} {news : List (Addr × Obj)} (stored : List Str)
    (hh : A.handled = none) (F : Fr h₀ env.locals s.heap m₀) (N : News h₀ env.locals s.heap ((ax, { cls := .type "tuple", data := .seq vs.toArray nn }) :: news)) (hlt : ∀ p ∈ news, p.1 < ax)
    (turn : ∀ v (u : Str → Option Value) h tk own, v ∈ vs → OwnOff own (news.map (·.1)) →
      Fr h₀ env.locals h (fun y => if y = x then some v else if stored.contains y then u y else m₀ y) → News h₀ env.locals h (news ++ own) →
      wpAny (model prog w) A (execs body env) (InvPostN h₀ env.locals (KstS (σ := Unit) (fun _ => news) (fun _ => []) (fun _ => True) x stored m₀ (fun _ _ => True) []) own (news.map (·.1)) { s with heap := h, toks := tk } Q) E { s with heap := h, toks := tk })
    (done : ∀ (u : Str → Option Value) h tk, Fr h₀ env.locals h (fun y => if y = x then u y else if stored.contains y then u y else m₀ y) → News h₀ env.locals h news → Q .next { s with heap := h, toks := tk }) :
    wpAny (model prog w) A (pyIter (.ref ax)) (fun it s₂ => LoopAtV prog w A h₀ env x body Q E it s₂) E s := by
  have hax := N _ (List.mem_cons_self ..)
  have hl : s.heap.IsTuple ax vs.toArray := ⟨_, hax.1, rfl, nn, rfl⟩
  have hne : ax ≠ s.heap.objs.size := Nat.ne_of_lt (Heap.lt_size hax.1)
  refine wpAny_pyIter_tuple hl ?_
  have N' : News h₀ env.locals s.heap news := fun p hp => N p (List.mem_cons_of_mem _ hp)
  refine loop_invN (fun _ m nx => KstS (σ := Unit) (fun _ => news) (fun _ => []) (fun _ => True) x stored m₀ (fun _ _ => True) [] m nx) (Walks.tuple hh s.heap.objs.size ax hne vs.toArray) ?_ ?_ ?_ ?_ ?_ (F.push _) (fun p hp => ⟨Heap.get?_push_of_some _ (N' p hp).1, (N' p hp).2⟩) ⟨(), rfl, trivial, List.forall_mem_nil _, fun _ _ _ _ => rfl, trivial⟩ ?_ ?_
  · intro hm
    rcases List.mem_cons.mp hm with e | hm
    · exact absurd F.ns.lt (e ▸ Nat.lt_irrefl _)
    · exact hax.2.1 (List.mem_singleton.mp hm).symm
  · intro b hb
    rw [List.mem_singleton.mp hb]
    exact next_is_new F
  · intro p hp hI
    exact absurd (Heap.lt_size (N' p hp).1) ((List.mem_singleton.mp hI) ▸ Nat.lt_irrefl _)
  · intro p hp hI
    rcases List.mem_cons.mp hI with e | hI
    · exact absurd (Heap.lt_size (N' p hp).1) (e ▸ Nat.lt_irrefl _)
    · exact absurd (hlt p hp) ((List.mem_singleton.mp hI) ▸ Nat.lt_irrefl _)
  · exact ⟨⟨_, Heap.get?_push_size _ rfl, rfl, rfl⟩, hl.at fun o e => Heap.get?_push_of_some _ e⟩
  · rintro i v m₁ nx h tk own hi hv _ hoff ⟨_, rfl, _, h1, h2, _⟩ F₁ N₁
    have hv' : v ∈ vs := by
      have : vs.toArray[i]? = some v := hv
      exact List.mem_of_getElem? (by simpa using this)
    exact turn v m₁ h tk own hv' hoff (kst_fr (ps := []) h1 h2 F₁) N₁
  · rintro m₁ nx h tk ⟨_, rfl, _, h1, h2, _⟩ F₁ N₁
    exact done m₁ h tk (kst_frOut (ps := []) h1 h2 F₁) N₁
end
section
variable {prog : Program} {w : World} {A : Around} {E : Value → Shared → Prop} {s : Shared} {env : Env} {h₀ : Heap} {x : Str} {body : List Stmt} {Q : Flow → Shared → Prop}
/-- a loop over a list of the call's own, whatever it holds, that stores nothing that is asked for -/
theorem loop_list {l : Addr} {vs : List Value} {nn : Nat} {m₀ : Str → Option Value} {news : List (Addr × Obj)} (stored : List Str)
    (hh : A.handled = none) (hl : (l, listOf vs.toArray nn) ∈ news) (F : Fr h₀ env.locals s.heap m₀) (N : News h₀ env.locals s.heap news)
    (turn : ∀ v (u : Str → Option Value) h tk own, v ∈ vs → OwnOff own (news.map (·.1)) →
      Fr h₀ env.locals h (fun y => if y = x then some v else if stored.contains y then u y else m₀ y) → News h₀ env.locals h (news ++ own) →
      wpAny (model prog w) A (execs body env) (InvPostN h₀ env.locals (KstS (σ := Unit) (fun _ => news) (fun _ => []) (fun _ => True) x stored m₀ (fun _ _ => True) []) own (news.map (·.1)) { s with heap := h, toks := tk } Q) E { s with heap := h, toks := tk })
    (done : ∀ (u : Str → Option Value) h tk, Fr h₀ env.locals h (fun y => if y = x then u y else if stored.contains y then u y else m₀ y) → News h₀ env.locals h news → Q .next { s with heap := h, toks := tk }) :
    wpAny (model prog w) A (pyIter (.ref l)) (fun it s₂ => LoopAtV prog w A h₀ env x body Q E it s₂) E s := by
  refine loop_vals (σ := Unit) (fun _ => news) (fun _ => []) (fun _ => True) stored (fun _ _ => True) () hh (fun _ => hl) F N trivial (List.forall_mem_nil _) trivial ?_ ?_
  · intro c pre v u h tk own hv hoff _ _ F₁ N₁
    exact turn v u h tk own (List.mem_of_getElem? hv) hoff F₁ N₁
  · intro c pre u h tk _ _ _ F₁ N₁
    exact done u h tk F₁ N₁
/-- a loop over a range that stores nothing that is asked for -/
theorem loop_range {r : Addr} {a₀ b₀ : Int} {t₀ u₀ v₀ : Tok} {n : Nat} {m₀ : Str → Option Value} {news : List (Addr × Obj)} (stored : List Str)
    (hh : A.handled = none) (hr : IsRange s.heap r a₀ b₀ 1 t₀ u₀ v₀) (hsmall : Builtin.Range.small a₀ b₀ 1 = true) (hn : Builtin.Range.rangeSize a₀ b₀ 1 = (n : Int)) (F : Fr h₀ env.locals s.heap m₀) (N : News h₀ env.locals s.heap news)
    (turn : ∀ (k : Int) t (u : Str → Option Value) h tk own, a₀ ≤ k → k < a₀ + (n : Int) → OwnOff own (news.map (·.1)) →
      Fr h₀ env.locals h (fun y => if y = x then some (.int k t) else if stored.contains y then u y else m₀ y) → News h₀ env.locals h (news ++ own) →
      wpAny (model prog w) A (execs body env) (InvPostN h₀ env.locals (KstS (σ := Unit) (fun _ => news) (fun _ => []) (fun _ => True) x stored m₀ (fun _ _ => True) []) own (news.map (·.1)) { s with heap := h, toks := tk } Q) E { s with heap := h, toks := tk })
    (done : ∀ (u : Str → Option Value) h tk, Fr h₀ env.locals h (fun y => if y = x then u y else if stored.contains y then u y else m₀ y) → News h₀ env.locals h news → Q .next { s with heap := h, toks := tk }) :
    wpAny (model prog w) A (pyIter (.ref r)) (fun it s₂ => LoopAtV prog w A h₀ env x body Q E it s₂) E s := by
  refine kst_range (σ := Unit) (fun _ => news) (fun _ => []) (fun _ => True) stored (fun _ _ => True) () hh hr hsmall hn F N trivial (List.forall_mem_nil _) trivial ?_ ?_
  · intro c pre k t u h tk own hk hlt hoff _ _ F₁ N₁
    exact turn k t u h tk own (by omega) (by omega) hoff F₁ N₁
  · intro c u h tk _ _ F₁ N₁
    exact done u h tk F₁ N₁
end
theorem strs_mem {us : List Value} {ws : List Str} (h : StrsAre us ws) {v : Value} (hv : v ∈ us) : ∃ x t, v = .str x t ∧ x ∈ ws := by
  induction h with
  | nil => cases hv
  | cons y t _ ih =>
    rcases List.mem_cons.mp hv with rfl | hv
    · exact ⟨y, t, rfl, .head _⟩
    · obtain ⟨x, t', e, hx⟩ := ih hv
      exact ⟨x, t', e, .tail _ hx⟩
theorem mem_l3 {t x y : Addr × Obj} {o : List (Addr × Obj)} : ∀ p ∈ [x, y], p ∈ t :: x :: y :: o := fun p hp => by
  rcases List.mem_cons.mp hp with rfl | hp
  · exact .tail _ (.head _)
  · rw [List.mem_singleton.mp hp]; exact .tail _ (.tail _ (.head _))
theorem mem_l4 {t x y : Addr × Obj} {o : List (Addr × Obj)} : ∀ p ∈ o, p ∈ t :: x :: y :: o := fun _ hp => .tail _ (.tail _ (.tail _ hp))
theorem mem_l6 {x y z : Addr × Obj} {o : List (Addr × Obj)} : ∀ p ∈ [x, y, z], p ∈ x :: y :: z :: o := fun _ hp => List.mem_append_left o hp
theorem mem_l7 {x y z : Addr × Obj} {o : List (Addr × Obj)} : ∀ p ∈ o, p ∈ x :: y :: z :: o := fun _ hp => .tail _ (.tail _ (.tail _ hp))
theorem mem_l8 {x y z : Addr × Obj} {o q : List (Addr × Obj)} : ∀ p ∈ x :: y :: z :: o, p ∈ x :: y :: z :: (o ++ q) := fun _ hp => List.mem_append_left q hp
theorem mem_l9 {x y z : Addr × Obj} {o q : List (Addr × Obj)} : ∀ p ∈ q, p ∈ x :: y :: z :: (o ++ q) := fun _ hp => .tail _ (.tail _ (.tail _ (List.mem_append_right _ hp)))
end Mine
end

section
open PySem PySem.W PyProof.Rows PySem.Calls PySem.Spec
namespace Mine
/-- what the two parts of a cut are apart -/
def cutD (x : Str) (k : Int) : Int := D ((ls x).take k.toNat) ((ls x).drop k.toNat)
/-- the word -/
def Wd (x : Str) : Prop := 5 ≤ x.length ∧ x.length ≤ 6 ∧ Asc x
/-- the least over all cuts -/
structure Least (x : Str) (m : Int) : Prop where
  le : ∀ k : Int, 0 ≤ k → k ≤ x.length → m ≤ cutD x k
theorem asc_take' {x y : Str} {k : Nat} (h : Asc x) (e : ls y = (ls x).take k) : Asc y := fun c hc => h c (List.mem_of_mem_take (e ▸ hc))
theorem asc_drop' {x y : Str} {k : Nat} (h : Asc x) (e : ls y = (ls x).drop k) : Asc y := fun c hc => h c (List.mem_of_mem_drop (e ▸ hc))
theorem cutD_le {x : Str} {k : Int} (h : Wd x) : cutD x k ≤ 12 := by
  have h1 := D_le_max ((ls x).take k.toNat) ((ls x).drop k.toNat)
  rw [List.length_take, List.length_drop, ls_len] at h1
  have := h.2.1
  unfold cutD
  omega
theorem least_any {x : Str} {m : Int} (h : Least x m) (s : List Nat) : m ≤ D (ls x) (s ++ s) := by
  obtain ⟨a1, a2, e, h1⟩ := D_split (ls x) s s
  have h2 := D_tri a1 s a2
  have h3 := D_symm s a2
  have hl : a1.length ≤ x.length := by
    have := congrArg List.length e
    rw [ls_len, List.length_append] at this
    omega
  have h4 := h.le (a1.length : Int) (by omega) (by omega)
  unfold cutD at h4
  rw [Int.toNat_natCast, e, List.take_left, List.drop_left] at h4
  omega
theorem least_part {x : Str} {m k : Int} (h : Least x m) (e : cutD x k = m) : D (ls x) ((ls x).take k.toNat ++ (ls x).take k.toNat) = m ∧ D (ls x) ((ls x).drop k.toNat ++ (ls x).drop k.toNat) = m := by
  have h1 := least_any h ((ls x).take k.toNat)
  have h2 := least_any h ((ls x).drop k.toNat)
  have h3 := D_append ((ls x).take k.toNat) ((ls x).take k.toNat) ((ls x).drop k.toNat) ((ls x).take k.toNat)
  have h4 := D_append ((ls x).take k.toNat) ((ls x).drop k.toNat) ((ls x).drop k.toNat) ((ls x).drop k.toNat)
  rw [List.take_append_drop, D_self] at h3 h4
  have h5 := D_symm ((ls x).drop k.toNat) ((ls x).take k.toNat)
  unfold cutD at e
  omega
section
variable {w : World} {mean : ExcName → Option Value} {mg mb : Str → Option Value}
theorem price_law (x : Str) (k : Int) (t1 t2 : Tok) (hW : Wd x) (h0 : 0 ≤ k) (h1 : k ≤ x.length) :
   TellI PySem.Challenge.rw_pg0335_02.row.prog w (hd02.heap_39 w.params) hd02.view_39 (looseW hd02.view_39 []) mean mg mb 35 [.str (Txt.slice x none (some k)) t1, .str (Txt.slice x (some k) none) t2] 10 120 (cutD x k) := by
  have e1 := ls_to h0 h1
  have e2 := ls_from h0 h1
  have h := price_claim w mean mg mb 6 (by decide) (Txt.slice x none (some k)) (Txt.slice x (some k) none) t1 t2
    (by rw [← ls_len, ← ls_len, e1, e2, List.length_take, List.length_drop, ls_len]; have := hW.2.1; omega) (asc_take' hW.2.2 e1) (asc_drop' hW.2.2 e2)
  rw [e1, e2] at h
  exact h
theorem lev_law (a b : Str) (mc r : Int) (ta tb tm : Tok) (ha : a.length ≤ 40) (hb : b.length ≤ 40) (hA : Asc a) (hB : Asc b) (e : D (ls a) (ls b) = r) (hr : r ≤ mc) :
   TellI PySem.Challenge.rw_pg0335_02.row.prog w (hd02.heap_39 w.params) hd02.view_39 (looseW hd02.view_39 []) mean mg mb 28 [.str a ta, .str b tb, .int mc tm] 5 40 r := by
  intro dp un gd cn cs aa ccd cl outer A₀ base h₀ L m news s Q E B F X N T hk hd hu hret
  refine lev_claim w mean mg mb a b mc ta tb tm ha hb hA hB dp un gd cn cs aa ccd cl outer A₀ base h₀ L m news s Q E B F X N T hk hd hu (fun q t h' tk' hP F' N' => ?_)
  have : q = r := by rcases hP with h | h <;> omega
  subst this
  exact hret t h' tk' F' N'
theorem lev_one (x : Str) (k : Int) (t1 t2 tm : Tok) (hW : Wd x) (h0 : 0 ≤ k) (h1 : k ≤ x.length) :
   TellI PySem.Challenge.rw_pg0335_02.row.prog w (hd02.heap_39 w.params) hd02.view_39 (looseW hd02.view_39 []) mean mg mb 28 [.str (Txt.slice x none (some k)) t1, .str (Txt.slice x (some k) none) t2, .int 12 tm] 5 40 (cutD x k) := by
  have e1 := ls_to h0 h1
  have e2 := ls_from h0 h1
  have hx := hW.2.1
  exact lev_law _ _ _ _ _ _ _ (Nat.le_trans (Txt.slice_le _ _ _) (by omega)) (Nat.le_trans (Txt.slice_le _ _ _) (by omega)) (asc_take' hW.2.2 e1) (asc_drop' hW.2.2 e2) (by rw [e1, e2]; rfl) (cutD_le hW)
theorem lev_two (x : Str) (k : Int) (t1 t2 tm : Tok) (hW : Wd x) (h0 : 0 ≤ k) (h1 : k ≤ x.length) :
   TellI PySem.Challenge.rw_pg0335_02.row.prog w (hd02.heap_39 w.params) hd02.view_39 (looseW hd02.view_39 []) mean mg mb 28 [.str (Txt.slice x (some k) none) t2, .str (Txt.slice x none (some k)) t1, .int (cutD x k) tm] 5 40 (cutD x k) := by
  have e1 := ls_to h0 h1
  have e2 := ls_from h0 h1
  have hx := hW.2.1
  exact lev_law _ _ _ _ _ _ _ (Nat.le_trans (Txt.slice_le _ _ _) (by omega)) (Nat.le_trans (Txt.slice_le _ _ _) (by omega)) (asc_drop' hW.2.2 e2) (asc_take' hW.2.2 e1) (by rw [e1, e2, D_symm]; rfl) (Int.le_refl _)
theorem len_double (y : Str) : (y ++ y).length = 2 * y.length := by rw [← ls_len, ls_append, List.length_append, ls_len]; omega
theorem lev_best (x y : Str) (m : Int) (t1 t2 tm : Tok) (hW : Wd x) (hy : y.length ≤ 6) (hA : Asc y) (e : D (ls x) (ls y ++ ls y) = m) :
   TellI PySem.Challenge.rw_pg0335_02.row.prog w (hd02.heap_39 w.params) hd02.view_39 (looseW hd02.view_39 []) mean mg mb 28 [.str x t1, .str (y ++ y) t2, .int m tm] 5 40 m := by
  have hx := hW.2.1
  exact lev_law _ _ _ _ _ _ _ (by omega) (by rw [len_double]; omega) hW.2.2 (asc_append hA hA) (by rw [ls_append]; exact e) (Int.le_refl _)
theorem lev_best' (x y : Str) (m : Int) (t1 t2 tm : Tok) (hW : Wd x) (hy : y.length ≤ 6) (hA : Asc y) (e : D (ls x) (ls y ++ ls y) = m) :
   TellI PySem.Challenge.rw_pg0335_02.row.prog w (hd02.heap_39 w.params) hd02.view_39 (looseW hd02.view_39 []) mean mg mb 28 [.str (y ++ y) t2, .str x t1, .int m tm] 5 40 m := by
  have hx := hW.2.1
  exact lev_law _ _ _ _ _ _ _ (by rw [len_double]; omega) (by omega) (asc_append hA hA) hW.2.2 (by rw [ls_append, D_symm]; exact e) (Int.le_refl _)
theorem lev_short (x y : Str) (m : Int) (t1 t2 tm : Tok) (hW : Wd x) (hy : y.length ≤ 2) (hA : Asc y) (hm : Least x m) :
   TellP PySem.Challenge.rw_pg0335_02.row.prog w (hd02.heap_39 w.params) hd02.view_39 (looseW hd02.view_39 []) mean mg mb 28 [.str x t1, .str (y ++ y) t2, .int m tm] 5 40 (fun r => m ≤ r) := by
  intro dp un gd cn cs aa ccd cl outer A₀ base h₀ L mm news s Q E B F X N T hk hd hu hret
  have hx := hW.2.1
  refine lev_claim w mean mg mb x (y ++ y) m t1 t2 tm (by omega) (by rw [len_double]; omega) hW.2.2 (asc_append hA hA) dp un gd cn cs aa ccd cl outer A₀ base h₀ L mm news s Q E B F X N T hk hd hu (fun q t h' tk' hP F' N' => hret q t h' tk' ?_ F' N')
  have h1 := least_any hm (ls y)
  unfold Told at hP
  rw [ls_append] at hP
  rcases hP with h | h <;> omega
end
theorem apart_step {x : Str} {pre ap : List Int} {k : Int} (h1 : ap.length = pre.length) (h2 : ap = pre.map (cutD x)) : (ap ++ [cutD x k]).length = (pre ++ [k]).length ∧ ap ++ [cutD x k] = (pre ++ [k]).map (cutD x) := by
  subst h2
  simp
theorem least_of {x : Str} {ap : List Int} {m : Int} (hm : ap = (rangeKs 0 ((x.length : Int) + 1 - 0).toNat).map (cutD x)) (h : ∀ a, a ∈ ap → m ≤ a) : Least x m := ⟨fun k h0 h1 => by
  refine h _ ?_
  rw [hm]
  refine List.mem_map.mpr ⟨k, ?_, rfl⟩
  unfold rangeKs
  refine List.mem_map.mpr ⟨k.toNat, List.mem_range.mpr (by omega), by omega⟩⟩
theorem item_ap {x : Str} {ap : List Int} {k : Int} (hm : ap = (rangeKs 0 ((x.length : Int) + 1 - 0).toNat).map (cutD x)) (h0 : 0 ≤ k) (h1 : k ≤ x.length) : ap.getD k.toNat 0 = cutD x k := by
  have hk : k.toNat < ((x.length : Int) + 1 - 0).toNat := by omega
  have e : (0 : Int) + (k.toNat : Int) = k := by omega
  rw [hm, List.getD_eq_getElem?_getD, List.getElem?_map]
  unfold rangeKs
  rw [List.getElem?_map, List.getElem?_range hk]
  simp only [Option.map_some, Option.getD_some]
  rw [e]
/-- a part of a best cut -/
structure Part (x y : Str) (m : Int) : Prop where
  len : y.length ≤ 6
  asc : Asc y
  due : D (ls x) (ls y ++ ls y) = m
theorem parts {x : Str} {m k : Int} (hW : Wd x) (hL : Least x m) (h0 : 0 ≤ k) (h1 : k ≤ x.length) (e : cutD x k = m) : Part x (Txt.slice x none (some k)) m ∧ Part x (Txt.slice x (some k) none) m := by
  have e1 := ls_to h0 h1
  have e2 := ls_from h0 h1
  have hx := hW.2.1
  have h := least_part hL e
  exact ⟨⟨Nat.le_trans (Txt.slice_le _ _ _) hx, asc_take' hW.2.2 e1, by rw [e1]; exact h.1⟩, ⟨Nat.le_trans (Txt.slice_le _ _ _) hx, asc_drop' hW.2.2 e2, by rw [e2]; exact h.2⟩⟩
theorem part_of {x y z : Str} {m : Int} {s t : Tok} {v : Value} (hv : v ∈ [Value.str y s, Value.str z t]) (h : Part x y m ∧ Part x z m) : ∃ p u, v = .str p u ∧ Part x p m := by
  rcases List.mem_cons.mp hv with rfl | hv
  · exact ⟨_, _, rfl, h.1⟩
  · exact ⟨_, _, List.mem_singleton.mp hv, h.2⟩
theorem int_of {m : Int} {s t : Tok} {v : Value} (hv : v ∈ [Value.int m s, Value.int m t]) : ∃ u, v = .int m u := by
  rcases List.mem_cons.mp hv with rfl | hv
  · exact ⟨_, rfl⟩
  · exact ⟨_, List.mem_singleton.mp hv⟩
end Mine
end

section
open PySem PySem.W PyProof.Rows PySem.Calls PySem.Spec
namespace Mine
local macro_rules | `(tactic| walk_at "subscriptTail Name BinOp str int") => `(tactic| ((with_reducible show wpAny _ _ (subscriptTail _ _ (Value.str _ _) (Value.int (Int.fmod _ _) _)) _ _ _); k_dflt (refine item_fmod3 (by assumption) ?_)))
local macro_rules | `(tactic| walk_at "subscriptTail List cons Slice ref ref") => `(tactic| (k_here; k_dflt (refine kba_turn (value' := PySem.Expr.Name (PySem.Str.ofString "_") ⟨0, 0, 0, 0⟩) (fun _ => rfl) ?_)))
local macro_rules | `(tactic| walk_at "subscriptTail Name Slice ref ref") => `(tactic| (k_here; (with_reducible show wpAny _ _ (subscriptTail _ (PySem.Expr.Slice _ _ none _) (Value.ref _) (Value.ref _)) _ _ _); k_dflt (refine' kmk_slice_ints ?F ?N ?l ?p ?q ?i ?m ?c ?_ ?s ?t ?z; (case F => k_asm); (case N => k_asm); (case l => kmk_list); (case p => kmk_part); (case q => kmk_part); (case i => l_ints); (case m => first | exact kmk_from (by l_ints) (Int.natCast_nonneg _) | exact kmk_upto (by l_ints) (by decide)); (case c => kmk_len); (case s => with_unfolding_all rfl); (case t => kmk_pure); (case z => first | assumption | exact Nat.le_of_ble_eq_true rfl)); intro D' ws' h' F' N' l1 hI' hC' hL'; (try simp only [Int.reduceNeg, Int.neg_neg, Int.reduceToNat] at hI' hC' hL'); (try k_lt l1); (try k_sweep)))
local macro_rules | `(tactic| walk_at "call ref") => `(tactic| (
    (k_dflt (first
      | refine' price_law _ _ _ _ ?q1 ?q2 ?q3 _ _ _ _ _ _ _ _ _ _ _ _ _ _ _ _ _ _ ?k1 ?k2 ?k3 ?k4 ?k5 ?kK ?kd ?ku ?_
      | refine' lev_one _ _ _ _ _ ?q1 ?q2 ?q3 _ _ _ _ _ _ _ _ _ _ _ _ _ _ _ _ _ _ ?k1 ?k2 ?k3 ?k4 ?k5 ?kK ?kd ?ku ?_
      | refine' lev_two _ _ _ _ _ ?q1 ?q2 ?q3 _ _ _ _ _ _ _ _ _ _ _ _ _ _ _ _ _ _ ?k1 ?k2 ?k3 ?k4 ?k5 ?kK ?kd ?ku ?_))
    (case q1 => assumption)
    (case q2 => assumption)
    (case q3 => assumption)
    (case k2 => k_asm)
    (case k1 => k_dflt k_asm)
    (case k3 => k_asm)
    (case k4 => k_asm)
    (case k5 => k_asm)
    (case kK => first | (k_dflt (exact rfl)) | assumption)
    (case kd => ktr_room)
    (case ku => ktr_units)
    intro t9 h9 tk9 F9 N9
    (try dsimp only)
    (try k_fold)))
local macro_rules | `(tactic| walk_at "exec For Name Tuple cons nil") => `(tactic| (k_here; (rename Fr _ _ _ _ => lF'); (with_unfolding_all refine' For_invVF lF' ?k1 ?k2 ?_; (case k1 => exact rfl); (case k2 => exact rfl); k_whole)))
local macro_rules | `(tactic| ktn_open) => `(tactic| repeat' (first | (k_unfold; (try dsimp only)) | ((fail_if_success (with_reducible show wpAny _ _ (pyIter (Value.ref _)) _ _ _)); (fail_if_success (with_reducible show InvEndN _ _ _ _ _ _ _)); first | (k_end; wrow_close) | walk1 | (dsimp only; walk1) | (leave1; walk_say "STEP leave1"; try dsimp only) | fail "no step")))
local macro_rules | `(tactic| walk_at "call ref") => `(tactic| (
    (k_dflt (refine' short_claim _ _ _ _ _ _ ?q1 ?q2 _ _ _ _ _ _ _ _ _ _ _ _ _ _ _ _ _ _ ?k1 ?k2 ?k3 ?k4 ?k5 ?kK ?kd ?ku ?_))
    (case q1 => assumption)
    (case q2 => assumption)
    (case k2 => k_asm)
    (case k1 => k_dflt k_asm)
    (case k3 => k_asm)
    (case k4 => k_asm)
    (case k5 => k_asm)
    (case kK => first | (k_dflt (exact rfl)) | assumption)
    (case kd => ktr_room)
    (case ku => ktr_units)
    intro D9 us9 ws9 c9 h9 tk9 hP9 hS9 F9 N9 l9
    (try dsimp only)
    (try k_fold)))
local macro_rules | `(tactic| walk_at "call ref") => `(tactic| (
    (k_dflt (first
      | refine' lev_best _ _ _ _ _ _ ?q1 ?q2 ?q3 ?q4 _ _ _ _ _ _ _ _ _ _ _ _ _ _ _ _ _ _ ?k1 ?k2 ?k3 ?k4 ?k5 ?kK ?kd ?ku ?_
      | refine' lev_best' _ _ _ _ _ _ ?q1 ?q2 ?q3 ?q4 _ _ _ _ _ _ _ _ _ _ _ _ _ _ _ _ _ _ ?k1 ?k2 ?k3 ?k4 ?k5 ?kK ?kd ?ku ?_))
    (case q1 => assumption)
    (case q2 => assumption)
    (case q3 => assumption)
    (case q4 => assumption)
    (case k2 => k_asm)
    (case k1 => k_dflt k_asm)
    (case k3 => k_asm)
    (case k4 => k_asm)
    (case k5 => k_asm)
    (case kK => first | (k_dflt (exact rfl)) | assumption)
    (case kd => ktr_room)
    (case ku => ktr_units)
    intro t9 h9 tk9 F9 N9
    (try dsimp only)
    (try k_fold)))
local macro_rules | `(tactic| walk_at "call ref") => `(tactic| (
    (k_dflt (refine' lev_short _ _ _ _ _ _ ?q1 ?q2 ?q3 ?q4 _ _ _ _ _ _ _ _ _ _ _ _ _ _ _ _ _ _ ?k1 ?k2 ?k3 ?k4 ?k5 ?kK ?kd ?ku ?_))
    (case q1 => assumption)
    (case q2 => assumption)
    (case q3 => assumption)
    (case q4 => assumption)
    (case k2 => k_asm)
    (case k1 => k_dflt k_asm)
    (case k3 => k_asm)
    (case k4 => k_asm)
    (case k5 => k_asm)
    (case kK => first | (k_dflt (exact rfl)) | assumption)
    (case kd => ktr_room)
    (case ku => ktr_units)
    intro r9 t9 h9 tk9 hP9 F9 N9
    (try dsimp only at hP9)
    (try dsimp only)
    (try k_fold)))
local macro_rules | `(tactic| walk_at "exec For Name Call cons nil") => `(tactic| (k_here; (rename Fr _ _ _ _ => lF'); (with_unfolding_all refine' For_invVF lF' ?k1 ?k2 ?_; (case k1 => exact rfl); (case k2 => exact rfl); k_whole)))
set_option maxRecDepth 100000 in
set_option maxHeartbeats 8000000 in
theorem law02 : PySem.Challenge.rw_pg0335_02.Holds := hd02 (by
  k_go0
  rename_i w s₀ s₁ mg mb G Y fa o pm doc ho hg KX XX VV GL T B TE TW bA bO M cA cdA hcd ns hs hlay0 hLay hr1 hl2 asA asB lS vs0 asC hL ra w1 r0 hI hr hc0 hc1 K0 hD h₁ tk₁ F0 o0 hw N0 X0
  have hlen := Int.ofNat_le.mp (Int.not_lt.mp hc0)
  have hzs := kmk_sz hI (Nat.le_trans hlen (by decide))
  have F1 := fr_to (m' := kstB (fun _ => none) [(Str.ofString "script", Value.ref lS)]) F0 (by with_unfolding_all rfl)
  clear F0
  clear hs hlay0 hLay hr1 hl2 ra w1 r0 hr hc0 hc1 hD
  dsimp only [kstB] at F1
  dsimp only
  (all_goals try k_fold)
  walk1
  refine' j_join (σ := Addr × List Value × Nat) (fun c => [(c.1, listOf c.2.1.toArray c.2.2), (s₁.heap.objs.size + 1, o0)]) (fun c => [("row", .ref c.1)]) [] (fun c => IntsAre c.2.1 (List.take 6 ns)) F1 N0 ?wA ?wB
  case wA =>
    k_steps
    exact j_end ⟨_, _, _⟩ (by assumption) (by assumption) (fun _ h => h) (by kst_all) (by ksw_same) (by assumption)
  clear F1 N0
  rintro ⟨aR, vR, cR⟩ u1 h1 tk1 iR F2 N2
  dsimp only [kstB] at iR F2 N2
  dsimp only
  have F3 := fr_re (m' := kstB (fun _ => none) [(Str.ofString "row", .ref aR), (Str.ofString "script", Value.ref lS)]) [Str.ofString "row", Str.ofString "script"] F2
    (by simp only [List.forall_mem_cons, List.not_mem_nil, false_implies, implies_true, and_true]; refine ⟨?_, ?_⟩ <;> with_unfolding_all rfl)
    (by intro z hz; simp only [List.forall_mem_cons, List.not_mem_nil, false_implies, implies_true, and_true, ne_eq] at hz; simp [kstB, hz])
  clear F2
  dsimp only [kstB] at F3
  have hRl : (List.take 6 ns).length ≤ 6 := by rw [List.length_take]; exact Nat.min_le_left _ _
  walk1
  refine' j_join (σ := Addr × List Value × List Int × Nat) (fun c => [(c.1, listOf c.2.1.toArray c.2.2.2), (s₁.heap.objs.size + 1, o0)]) (fun c => [("numbers", .ref c.1)]) [] (fun c => IntsAre c.2.1 c.2.2.1 ∧ 5 ≤ c.2.2.1.length ∧ c.2.2.1.length ≤ 6) F3 N2 ?wC ?wD
  case wC =>
    k_steps
    exact j_end ⟨_, _, _, _⟩ (by assumption) (by assumption) (fun p hp => by
      rcases List.mem_cons.mp hp with rfl | hp
      · exact .head _
      · rw [List.mem_singleton.mp hp]; k_memK) (by kst_all) (by ksw_same) ⟨by assumption, by simp only [List.length_append, List.length_drop, List.length_cons, List.length_nil, Int.toNat_natCast]; omega, by simp only [List.length_append, List.length_drop, List.length_cons, List.length_nil, Int.toNat_natCast]; omega⟩
  clear F3 N2
  rintro ⟨aN, vN, nums, cN⟩ u2 h2 tk2 ⟨iN, n5, n6⟩ F4 N4
  dsimp only [kstB] at iN n5 n6 F4 N4
  dsimp only
  have F5 := fr_re (m' := kstB (fun _ => none) [(Str.ofString "numbers", .ref aN), (Str.ofString "row", .ref aR), (Str.ofString "script", Value.ref lS)]) [Str.ofString "numbers", Str.ofString "row", Str.ofString "script"] F4
    (by simp only [List.forall_mem_cons, List.not_mem_nil, false_implies, implies_true, and_true]; refine ⟨?_, ?_, ?_⟩ <;> with_unfolding_all rfl)
    (by intro z hz; simp only [List.forall_mem_cons, List.not_mem_nil, false_implies, implies_true, and_true, ne_eq] at hz; simp [kstB, hz])
  clear F4
  dsimp only [kstB] at F5
  walk1
  refine' j_join (σ := Int × Tok) (fun c => [(aN, listOf vN.toArray cN), (s₁.heap.objs.size + 1, o0)]) (fun c => [("code", .int c.1 c.2)]) [] (fun c => 0 ≤ c.1 ∧ c.1 < 25) F5 N4 ?wE ?wF
  case wE =>
    k_steps
    exact j_end ⟨_, _⟩ (by assumption) (by assumption) (fun p hp => by
      rcases List.mem_cons.mp hp with rfl | hp
      · k_memK
      · rw [List.mem_singleton.mp hp]; k_memK) (by kst_all) (by ksw_same) ⟨by first | exact Int.emod_nonneg _ (by decide) | exact Int.fmod_nonneg_of_pos _ (by decide), by first | exact Int.emod_lt_of_pos _ (by decide) | exact Int.fmod_lt_of_pos _ (by decide)⟩
  clear F5 N4
  rintro ⟨code, tc⟩ u3 h3 tk3 ⟨c0, c25⟩ F6 N6
  dsimp only [kstB] at c0 c25 F6 N6
  dsimp only
  have F7 := fr_re (m' := kstB (fun _ => none) [(Str.ofString "code", .int code tc), (Str.ofString "numbers", .ref aN), (Str.ofString "row", .ref aR), (Str.ofString "script", Value.ref lS)]) [Str.ofString "code", Str.ofString "numbers", Str.ofString "row", Str.ofString "script"] F6
    (by simp only [List.forall_mem_cons, List.not_mem_nil, false_implies, implies_true, and_true]; refine ⟨?_, ?_, ?_, ?_⟩ <;> with_unfolding_all rfl)
    (by intro z hz; simp only [List.forall_mem_cons, List.not_mem_nil, false_implies, implies_true, and_true, ne_eq] at hz; simp [kstB, hz])
  clear F6
  dsimp only [kstB] at F7
  walk1
  refine' j_join (σ := Obj × Str × Tok) (fun c => [(aN, listOf vN.toArray cN), (s₁.heap.objs.size + 1, c.1)]) (fun c => []) [] (fun c => c.1.data = Data.cell (some (.str c.2.1 c.2.2)) ∧ c.2.1.length = 3 ∧ Asc c.2.1) F7 N6 ?wG ?wH
  case wG =>
    k_steps
    exact j_end ⟨_, _, _⟩ (by assumption) (by assumption) (fun p hp => by
      rcases List.mem_cons.mp hp with rfl | hp
      · k_memK
      · rw [List.mem_singleton.mp hp]; k_memK) (List.forall_mem_nil _) (by ksw_same) ⟨by assumption, by rfl, signs_asc c0 c25⟩
  clear F7 N6
  rintro ⟨oC, sg, tsg⟩ u4 h4 tk4 ⟨dC, s3, sA⟩ F8 N8
  dsimp only [kstB] at dC s3 sA F8 N8
  dsimp only
  have F9 := fr_re (m' := kstB (fun _ => none) [(Str.ofString "code", .int code tc), (Str.ofString "numbers", .ref aN), (Str.ofString "row", .ref aR), (Str.ofString "script", Value.ref lS)]) [Str.ofString "code", Str.ofString "numbers", Str.ofString "row", Str.ofString "script"] F8
    (by simp only [List.forall_mem_cons, List.not_mem_nil, false_implies, implies_true, and_true]; refine ⟨?_, ?_, ?_, ?_⟩ <;> with_unfolding_all rfl)
    (by intro z hz; simp only [List.forall_mem_cons, List.not_mem_nil, false_implies, implies_true, and_true, ne_eq] at hz; simp [kstB, hz])
  clear F8
  dsimp only [kstB] at F9
  walk1
  refine' j_join (σ := Str × Tok) (fun c => [(s₁.heap.objs.size + 1, oC)]) (fun c => [("word", .str c.1 c.2)]) [] (fun c => Wd c.1) F9 N8 ?wI ?wJ
  case wI =>
    repeat' (first | (k_unfold; (try dsimp only)) | ((fail_if_success (with_reducible show LCg.CompSrc _ _ _ _ _ _ _ _ _ _ _ _ _ _)); first | (k_end; wrow_close) | walk1 | (dsimp only; walk1) | fail "no step"))
    k_dflt (refine LCg.CompSrc.ledger (by rfl) (by k_asm) (by k_asm) (by k_mem) (kmk_sz iN (Nat.le_trans n6 (by decide))) ?_)
    intro g'
    k_dflt (refine' kct_list (fun k => Txt.item sg (k.fmod 3)) iN (fun k' t' I' oI' C' oC' D' m' ys' h' tk' E' hk' hC' hx' F' N' off' ne' => ?_) ?_)
    · (try (simp only [LCg.Off3, and_true] at off'))
      intro hMark'
      k_steps
    · k_steps
      refine j_end ⟨_, _⟩ (by assumption) (by assumption) (fun p hp => by
        rw [List.mem_singleton.mp hp]; k_memK) (by kst_all) (by ksw_same) ?hx
      dsimp only
      exact ⟨by rw [word_len s3]; exact n5, by rw [word_len s3]; exact n6, word_asc s3 sA nums⟩
  clear F9 N8
  rintro ⟨word, tw⟩ u5 h5 tk5 hW F10 N10
  dsimp only [kstB] at hW F10 N10
  dsimp only
  have F11 := fr_re (m' := kstB (fun _ => none) [(Str.ofString "word", .str word tw), (Str.ofString "code", .int code tc), (Str.ofString "numbers", .ref aN), (Str.ofString "row", .ref aR), (Str.ofString "script", Value.ref lS)]) [Str.ofString "word", Str.ofString "code", Str.ofString "numbers", Str.ofString "row", Str.ofString "script"] F10
    (by simp only [List.forall_mem_cons, List.not_mem_nil, false_implies, implies_true, and_true]; refine ⟨?_, ?_, ?_, ?_, ?_⟩ <;> with_unfolding_all rfl)
    (by intro z hz; simp only [List.forall_mem_cons, List.not_mem_nil, false_implies, implies_true, and_true, ne_eq] at hz; simp [kstB, hz])
  clear F10
  dsimp only [kstB] at F11
  have hwB : word.length ≤ 1000 := Nat.le_trans hW.2.1 (by decide)
  k_with_none
  k_with "pyIter ref" => fail "mine"
  repeat' (first | (k_unfold; (try dsimp only)) | ((fail_if_success (with_reducible show wpAny _ _ (pyIter (Value.ref _)) _ _ _)); first | (k_end; wrow_close) | walk1 | (dsimp only; walk1) | (leave1; walk_say "STEP leave1"; try dsimp only) | fail "no step"))
  k_with_none
  k_with "state" => (first
    | exact ⟨rfl, rfl⟩
    | fail)
  k_state (fun pre apart => apart.length = pre.length ∧ apart = pre.map (cutD word)) "apart"
  · skip -- T1
    have hk0 : 0 ≤ kN := by omega
    have hk1 : kN ≤ word.length := by omega
    k_with_none
    k_with "state" => (first
      | exact apart_step (by assumption) (by assumption)
      | fail)
    ktn_open
    (rename Fr _ _ _ _ => lF')
    (rename News _ _ _ _ => lN')
    refine' loop_tup [Str.ofString "told"] rfl lF' lN' ?lt ?tu ?dn
    case lt => exact kst_ltOf (by assumption)
    case tu => 
      clear lF' lN'
      intro v u h tk own hv hoff F1 N1
      obtain ⟨t', rfl⟩ : ∃ t', v = .int (cutD word kN) t' := by
        rcases List.mem_cons.mp hv with rfl | hv
        · exact ⟨_, rfl⟩
        · exact ⟨_, List.mem_singleton.mp hv⟩
      clear hv
      ktn_open
      (rename News _ _ _ _ => nE')
      exact kst_end () (by assumption) nE' (fun p hp => List.mem_append_left _ hp) (fun p hp => List.mem_append_right _ hp) (by rfl) trivial (List.forall_mem_nil _) (by kst_same) trivial
    case dn =>
      clear lF' lN'
      intro u h tk F1 N1
      dsimp only
      ktn_open
      (rename News _ _ _ _ => nE')
      simp only [List.push_toArray] at nE'
      refine' kst_end ⟨_, _, _⟩ (by assumption) nE' mem_l3 mem_l4 (by rfl) ?g3 (List.forall_mem_nil _) ?g4 ?g5
      case g3 => kst_facts
      case g4 => kst_same
      case g5 => exact apart_step (by assumption) (by assumption)
  dsimp only
  k_with_none
  (rename _ = List.map (cutD word) _ => hmap)
  (rename List.length _ = List.length (rangeKs _ _) => hlenA)
  rw [rangeKs_length] at hlenA
  have hposA := Nat.lt_of_lt_of_eq (show 0 < ((word.length : Int) + 1 - 0).toNat by omega) hlenA.symm
  ktn_open
  (rename List Value => us)
  (rename List Str => ws)
  (rename StrsAre _ _ => hS)
  (rename _ ∧ Good _ => hP)
  (rename Fr _ _ _ _ => lF')
  (rename News _ _ _ _ => lN')
  (rename ∀ a, a ∈ _ → _ ≤ a => hMin)
  have hLeast := least_of hmap hMin
  refine' loop_list [] rfl (.head _) lF' lN' ?wK ?wL
  case wK =>
    clear lF' lN'
    intro v u h tk own hv hoff F1 N1
    obtain ⟨x, t', rfl, hx⟩ := strs_mem hS hv
    replace F1 : Fr s₁.heap s₁.heap.objs.size h _ := F1
    replace N1 : News s₁.heap s₁.heap.objs.size h _ := N1
    clear hv
    have hx1 := (hP.2 x hx).1
    have hx2 := (hP.2 x hx).2
    ktn_open
    (rename News _ _ _ _ => nE')
    exact kst_end () (by assumption) nE' (fun p hp => List.mem_append_left _ hp) (fun p hp => List.mem_append_right _ hp) (by rfl) trivial (List.forall_mem_nil _) (by kst_same) trivial
  clear lF' lN'
  intro u h tk F1 N1
  dsimp only
  replace F1 : Fr s₁.heap s₁.heap.objs.size h _ := F1
  replace N1 : News s₁.heap s₁.heap.objs.size h _ := N1
  ktn_open
  (rename Fr _ _ _ _ => lF')
  (rename News _ _ _ _ => lN')
  (rename IsRange _ _ _ _ _ _ _ _ => rgX)
  refine' loop_range [Str.ofString "part", Str.ofString "told"] rfl rgX ?sm ?sz lF' lN' ?wM ?wN
  case sm => exact small_one (by omega) (by omega) (by omega) (by omega)
  case sz => exact rangeSize_nat _ _
  case wM =>
    clear lF' lN'
    intro kN kT u2 h2 tk2 kOwn kLo kHi hoff F1 N1
    replace F1 : Fr s₁.heap s₁.heap.objs.size h2 _ := F1
    replace N1 : News s₁.heap s₁.heap.objs.size h2 _ := N1
    simp only [List.cons_append, List.nil_append] at N1
    have hk1 : kN ≤ word.length := by omega
    have hap := item_ap hmap kLo hk1
    ktn_open
    · have hcut := hap.symm.trans (by assumption)
      have hparts := parts hW hLeast kLo hk1 hcut
      (rename Fr _ _ _ _ => lF')
      (rename News _ _ _ _ => lN')
      refine' loop_tup [Str.ofString "told"] rfl lF' lN' ?lt ?wO ?wP
      case lt => exact kst_ltOf (by assumption)
      case wO =>
        clear lF' lN'
        intro v u3 h3 tk3 own3 hv hoff3 F1 N1
        replace F1 : Fr s₁.heap s₁.heap.objs.size h3 _ := F1
        replace N1 : News s₁.heap s₁.heap.objs.size h3 _ := N1
        simp only [List.cons_append, List.nil_append] at N1
        obtain ⟨y, ty, rfl, hp1, hp2, hp3⟩ := part_of hv hparts
        clear hv
        ktn_open
        (rename Fr _ _ _ _ => lF')
        (rename News _ _ _ _ => lN')
        refine' loop_tup [] rfl lF' lN' ?lt ?wQ ?wR
        case lt => exact kst_ltOf (by assumption)
        case wQ =>
          clear lF' lN'
          intro v u4 h4 tk4 own4 hv hoff4 F1 N1
          obtain ⟨t', rfl⟩ := int_of hv
          clear hv
          ktn_open
          (rename News _ _ _ _ => nE')
          exact kst_end () (by assumption) nE' (fun p hp => List.mem_append_left _ hp) (fun p hp => List.mem_append_right _ hp) (by rfl) trivial (List.forall_mem_nil _) (by kst_same) trivial
        case wR =>
          clear lF' lN'
          intro u h tk F1 N1
          dsimp only
          ktn_open
          (rename News _ _ _ _ => nE')
          exact kst_end () (by assumption) nE' mem_l8 mem_l9 (by rfl) trivial (List.forall_mem_nil _) (by kst_same) trivial
      case wP =>
        clear lF' lN'
        intro u h tk F1 N1
        dsimp only
        ktn_open
        (rename News _ _ _ _ => nE')
        exact kst_end () (by assumption) nE' mem_l6 mem_l7 (by rfl) trivial (List.forall_mem_nil _) (by kst_same) trivial
    · (rename News _ _ _ _ => nE')
      exact kst_end () (by assumption) nE' mem_l6 mem_l7 (by rfl) trivial (List.forall_mem_nil _) (by kst_same) trivial
  case wN =>
    clear lF' lN'
    intro u h tk F1 N1
    dsimp only
    k_with_none
    ktn_open)
end Mine
end

theorem PySem.Challenge.cw_pg0335_02_holds : PySem.Challenge.rw_pg0335_02.Holds :=
  Mine.law02
