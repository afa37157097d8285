import PyProof.Rows.All
import Wide.All
import OpenK.AllK
import Wide.FinOn
import PySem.Challenge.RW_gg0003_01
set_option Elab.async false
section
open PySem PySem.W PyProof.Rows
set_option maxRecDepth 100000
set_option maxHeartbeats 8000000
namespace Mine
open_top hd for PySem.Challenge.rw_gg0003_01
end Mine
end

section
open PySem PySem.Spec PySem.Calls PySem.W PyProof.Rows
set_option Elab.async false
set_option maxRecDepth 100000
set_option maxHeartbeats 4000000
namespace Mine

/-- the contract of a def of the text: called from any frame, it gives back what Post says, and keeps all -/
def Spec (lev : Nat) (w : World) (f : Addr) (args : List Value) (news : List (Addr × Obj)) (Pre : Heap → Prop) (Post : Value → List (Addr × Obj) → Prop) : Prop :=
  ∀ (mean : ExcName → Option Value) (mg mb : Str → Option Value) (dp un : Nat) (gd : Option (List Code)) (cn : Str) (cs : Scope) (a : Addr) (ccd : Value) (cl : List (Str × Addr)) (outer : List Env) (A₀ : Around) (base h₀ : Heap) (L : Addr) (m : Str → Option Value) (s : Shared) (Q E : Value → Shared → Prop),
    Below A₀ base outer h₀ → Fr h₀ L s.heap m → (Mine.hd.heap_39 w.params).In h₀ → News h₀ L s.heap news → Top Mine.hd.view_39 (looseW Mine.hd.view_39 [Str.ofString "insort_left", Str.ofString "bisect_left"]) mean mg mb h₀ → cs.kind = .function → Pre h₀ → dp + lev < recursionLimit → un + 20 * lev < cLine →
    (∀ r tl h' tk', Fr h₀ L h' m → News h₀ L h' (tl ++ news) → Post r tl → Q r { s with heap := h', toks := tk' }) →
    wpAny (model PySem.Challenge.rw_gg0003_01.row.prog w) (ktrTop dp un gd cn cs L a ccd cl outer) (call (.ref f) args) Q E s

section
variable {prog : Program} {w : World} {A : Around} {E : Value → Shared → Prop} {s : Shared} {env : Env} {h₀ : Heap} {R : Result → Shared → Prop}

/-- what a turn of a loop leaves -/
def TurnEnd (h₀ : Heap) (L : Addr) (J : (Str → Option Value) → List (Addr × Obj) → Prop) (R : Result → Shared → Prop) (it : Addr) (io : Obj) (s : Shared) (f : Flow) (s' : Shared) : Prop :=
  match f with
  | .brk => R (.ok .next) s'
  | .ret v => R (.ok (.ret v)) s'
  | _ => ∃ h' tk' m' news', s' = { s with heap := h', toks := tk' } ∧ Fr h₀ L h' m' ∧ News h₀ L h' ((it, io) :: news') ∧ (∀ p ∈ news', p.1 ≠ it) ∧ J m' news'

theorem listIter_of {h : Heap} {it l : Addr} {i : Nat} (x : h.IsListIter it l i) : ∃ io, h.get? it = some io ∧ io.cls = .type "list_iterator" ∧ ∀ h' : Heap, h'.get? it = some io → h'.IsListIter it l i :=
  let ⟨o, ho, hc, hd⟩ := x; ⟨o, ho, hc, fun _ e => ⟨o, e, hc, hd⟩⟩

theorem let_go_list {target : Expr} {I l : Addr} {i : Nat} {v : Value} {Q : Unit → Shared → Prop} (hit : s.heap.IsListIter I l i) (h : Q () s) :
    wpAny (model prog w) A (letOwnedTupleGo target (.ref I) v) Q E s := by
  obtain ⟨io, hio, hc, hd⟩ := hit
  have go : ∀ a : Addr, wpAny (model prog w) A (do
      let o ← load I
      match o.cls, o.data with
      | .type n, .fields vs =>
        if ["enumerate", "zip", "dict_itemiterator", "dict_reverseitemiterator", "odict_iterator", "itertools.zip_longest", "itertools.pairwise"].contains n && vs[0]? == some (rawInt a) then
          rule "for.unpacks-the-owned-tuple"
          updateField I 0 .none
      | _, _ => pure ()) Q E s := fun a => by
    refine wpAny_bind (wpAny_load hio ?_)
    rw [hc, hd]
    dsimp only
    rw [if_neg (by simp)]
    exact wpAny_pure h
  unfold letOwnedTupleGo
  cases target <;> first | exact wpAny_pure h | (cases v <;> first | exact wpAny_pure h | exact go _)

/-- a for over a list that the body may make longer -/
theorem for_list {target : Expr} {body : List Stmt} {l : Addr} {m₀ : Str → Option Value} {news₀ : List (Addr × Obj)} (J : Nat → (Str → Option Value) → List (Addr × Obj) → Prop) (N : Nat)
    (hh : A.handled = none)
    (F : Fr h₀ env.locals s.heap m₀) (Nw : News h₀ env.locals s.heap news₀) (hj : J 0 m₀ news₀)
    (hlist : ∀ i m news h, J i m news → Fr h₀ env.locals h m → News h₀ env.locals h news → ∃ its : List Value, h.IsList l its.toArray ∧ i ≤ its.length ∧ its.length ≤ N)
    (turn : ∀ i v m news h tk it io its, J i m news → Fr h₀ env.locals h m → News h₀ env.locals h ((it, io) :: news) → (∀ p ∈ news, p.1 ≠ it) → io.cls = .type "list_iterator" → h.IsList l (List.toArray its) → its[i]? = some v →
      ∀ E', wpAny (model prog w) A (assign target env v) (fun _ s₂ => wpAny (model prog w) A (execs body env) (TurnEnd h₀ env.locals (J (i + 1)) R it io { s with heap := h, toks := tk }) E' s₂) E' { s with heap := h, toks := tk })
    (done : ∀ i m news h tk its, J i m news → Fr h₀ env.locals h m → News h₀ env.locals h news → h.IsList l (List.toArray its) → i = its.length → R (.ok .next) { s with heap := h, toks := tk }) :
    wpAny (model prog w) A (pyIter (.ref l)) (fun it s₂ => codeAny (model prog w) A (.forLoop target it body [] env) R s₂) E s := by
  obtain ⟨its₀, hl₀, -, -⟩ := hlist 0 _ _ _ hj F Nw
  refine wpAny_pyIter_list hl₀ ?_
  have hit₀ : (s.heap.push { cls := .type "list_iterator", data := .fields #[.ref l, .int 0 0] }).IsListIter s.heap.objs.size l 0 := ⟨_, Heap.get?_push_size _ rfl, rfl, rfl⟩
  have up₀ : ∀ b o, s.heap.get? b = some o → (s.heap.push { cls := .type "list_iterator", data := .fields #[.ref l, .int 0 0] }).get? b = some o := fun b o e => Heap.get?_push_of_some _ e
  have hIL : env.locals ≠ s.heap.objs.size := Nat.ne_of_lt F.ns.lt
  have hI0 : h₀.get? s.heap.objs.size = none := next_is_new F
  have hoff₀ : ∀ p ∈ news₀, p.1 ≠ s.heap.objs.size := fun p hp => Nat.ne_of_lt (Heap.lt_size (Nw p hp).1)
  have F₀ : Fr h₀ env.locals (s.heap.push { cls := .type "list_iterator", data := .fields #[.ref l, .int 0 0] }) m₀ := F.push _
  have Nw₀ : News h₀ env.locals (s.heap.push { cls := .type "list_iterator", data := .fields #[.ref l, .int 0 0] }) news₀ := fun p hp => ⟨up₀ _ _ (Nw p hp).1, (Nw p hp).2⟩
  generalize s.heap.objs.size = I at hit₀ hIL hI0 hoff₀
  generalize (s.heap.push { cls := .type "list_iterator", data := .fields #[.ref l, .int 0 0] }) = H at hit₀ F₀ Nw₀
  refine codeAny_forLoop_any (fun k s' => ∃ i m news h tk, s' = { s with heap := h, toks := tk } ∧ k = N + 1 - i ∧ i ≤ N ∧ h.IsListIter I l i ∧ Fr h₀ env.locals h m ∧ News h₀ env.locals h news ∧ (∀ p ∈ news, p.1 ≠ I) ∧ J i m news) ?_ (N + 1)
    ⟨0, m₀, news₀, H, s.toks, rfl, rfl, Nat.zero_le _, hit₀, F₀, Nw₀, hoff₀, hj⟩
  rintro k s' ⟨i, m, news, h, tk, rfl, rfl, hiN, hit, F', Nw', hoff, hJ⟩
  obtain ⟨its, hl, hi, hN⟩ := hlist i m news h hJ F' Nw'
  have hlI : l ≠ I := by
    rintro rfl
    obtain ⟨o, ho, hc, _⟩ := hit
    obtain ⟨o', ho', hc', _⟩ := hl
    rw [ho] at ho'; cases ho'; rw [hc] at hc'; injection hc' with e; exact absurd e (by decide)
  by_cases hlt : i < its.length
  · have hv : its.toArray[i]? = some its[i] := by simp [hlt]
    refine wpAny_pyNext_list_item hit hl hv fun h₁ hit₁ hs₁ => ?_
    obtain ⟨io, hio, hioc, hiof⟩ := listIter_of hit₁
    have F₁ : Fr h₀ env.locals h₁ m := F'.change hs₁ (Ne.symm hIL) hI0
    have N₁ : News h₀ env.locals h₁ ((I, io) :: news) := fun p hp => by
      rcases List.mem_cons.mp hp with rfl | hp
      · exact ⟨hio, Ne.symm hIL, hI0⟩
      · exact ⟨hs₁.extBut _ _ (hoff p hp) (Nw' p hp).1, (Nw' p hp).2⟩
    have hl₁ : h₁.IsList l its.toArray := hl.extBut hs₁.extBut hlI
    refine let_go_list (hiof _ hio) ?_
    refine wpAny_mono (turn i its[i] m news h₁ tk I io its hJ F₁ N₁ hoff hioc hl₁ (by simp [hlt]) _) (fun _ s₂ h₂ => ?_) fun _ _ e => e
    refine wpAny_mono h₂ (fun f s₃ h₃ => ?_) fun _ _ e => e
    have fin : (∃ h' tk' m' news', s₃ = { ({ s with heap := h₁, toks := tk } : Shared) with heap := h', toks := tk' } ∧ Fr h₀ env.locals h' m' ∧ News h₀ env.locals h' ((I, io) :: news') ∧ (∀ p ∈ news', p.1 ≠ I) ∧ J (i + 1) m' news') →
        ∃ k', k' < N + 1 - i ∧ ∃ i m news h tk, s₃ = { s with heap := h, toks := tk } ∧ k' = N + 1 - i ∧ i ≤ N ∧ h.IsListIter I l i ∧ Fr h₀ env.locals h m ∧ News h₀ env.locals h news ∧ (∀ p ∈ news, p.1 ≠ I) ∧ J i m news := by
      rintro ⟨h', tk', m', news', rfl, F2, N2, hoff2, hJ2⟩
      exact ⟨N + 1 - (i + 1), by omega, i + 1, m', news', h', tk', rfl, rfl, by omega, hiof _ (N2 _ (.head _)).1, F2, fun p hp => N2 p (.tail _ hp), hoff2, hJ2⟩
    cases f with
    | ret v => exact h₃
    | brk => exact h₃
    | next => exact fin h₃
    | cont => exact fin h₃
  · have hin : i = its.length := by omega
    refine wpAny_pyNext_list_end hh hit hl (by simp [hin]) fun h₁ he₁ => wpAny_execs_nil ?_
    refine done i m news h₁ tk its hJ ?_ ?_ (hl.extBut he₁ hlI) hin
    · exact ⟨F'.ns.at' fun o e => he₁ _ o hIL e, fun b o e => he₁ b o (fun q => by rw [q, hI0] at e; cases e) (F'.keep b o e), F'.above⟩
    · exact fun p hp => ⟨he₁ _ _ (hoff p hp) (Nw' p hp).1, (Nw' p hp).2⟩
end
end Mine
end

section
open PySem PySem.Spec PySem.Calls PySem.W PyProof.Rows
set_option Elab.async false
set_option maxRecDepth 100000
set_option maxHeartbeats 8000000
namespace Mine
/-- a pair of ints as a tuple -/
abbrev tup2 (x : Int) (t : Tok) (y : Int) (u : Tok) : Obj := { cls := .type "tuple", data := .seq #[.int x t, .int y u] }

/-- the ledger bears these values as pairs of ints -/
inductive PairsAt (led : List (Addr × Obj)) : List Value → List (Int × Int) → Prop
  | nil : PairsAt led [] []
  | cons {a : Addr} {x y : Int} {t u : Tok} {vs : List Value} {ps : List (Int × Int)} : (a, tup2 x t y u) ∈ led → PairsAt led vs ps → PairsAt led (.ref a :: vs) ((x, y) :: ps)

section
variable {led led' : List (Addr × Obj)} {vs ws : List Value} {ps qs : List (Int × Int)}
theorem PairsAt.mono (h : PairsAt led vs ps) (hs : ∀ p ∈ led, p ∈ led') : PairsAt led' vs ps := by
  induction h with
  | nil => exact .nil
  | cons hm _ ih => exact .cons (hs _ hm) ih
theorem PairsAt.length (h : PairsAt led vs ps) : vs.length = ps.length := by
  induction h with
  | nil => rfl
  | cons _ _ ih => rw [List.length_cons, List.length_cons, ih]
theorem PairsAt.append (h : PairsAt led vs ps) (k : PairsAt led ws qs) : PairsAt led (vs ++ ws) (ps ++ qs) := by
  induction h with
  | nil => exact k
  | cons hm _ ih => exact .cons hm ih
theorem PairsAt.get (h : PairsAt led vs ps) {i : Nat} {v : Value} (hv : vs[i]? = some v) : ∃ a x t y u, v = .ref a ∧ ps[i]? = some (x, y) ∧ (a, tup2 x t y u) ∈ led := by
  induction h generalizing i with
  | nil => simp at hv
  | @cons a x y t u vs ps hm _ ih =>
    cases i with
    | zero => simp only [List.getElem?_cons_zero, Option.some.injEq] at hv ⊢; exact ⟨a, x, t, y, u, hv.symm, rfl, hm⟩
    | succ i => simpa using ih (by simpa using hv)
end
/-- what a frame holds under its names, said -/
theorem pin {m f : Str → Option Value} {x : Str} {v : Value} (hf : ∀ y, f y = m y) (e : m x = some v) : ∀ y, (if y = x then some v else f y) = m y := fun y => by
  by_cases h : y = x
  · simp [h, e]
  · simp [h, hf]
theorem fr_of {g h : Heap} {L : Addr} {m f : Str → Option Value} (F : Fr g L h m) (hf : ∀ y, f y = m y) : Fr g L h f := by
  rw [show f = m from funext hf]; exact F

theorem allLt_mem {d : Addr} {l : List (Addr × Obj)} (h : AllLt d l) : ∀ p ∈ l, p.1 < d := by
  induction l with
  | nil => intro p hp; cases hp
  | cons q r ih =>
    intro p hp
    rcases List.mem_cons.mp hp with rfl | hp
    · exact h.1
    · exact ih h.2 p hp

/-- the ties, from the low and the high place and the numbers left -/
def tiesFrom (lo hi : Int) : List Int → List (Int × Int)
  | [] => [(lo, hi)]
  | n :: r => (lo, hi) :: (if n.fmod 2 = 0 then tiesFrom (lo + 1) hi r else tiesFrom lo (hi - 1) r)
def endFrom (lo hi : Int) : List Int → Int × Int
  | [] => (lo, hi)
  | n :: r => if n.fmod 2 = 0 then endFrom (lo + 1) hi r else endFrom lo (hi - 1) r
theorem tiesFrom_snoc (lo hi : Int) (l : List Int) (n : Int) : tiesFrom lo hi (l ++ [n]) = tiesFrom lo hi l ++ [endFrom lo hi (l ++ [n])] := by
  induction l generalizing lo hi with
  | nil => simp only [List.nil_append, tiesFrom, endFrom]; split <;> rfl
  | cons m r ih =>
    simp only [List.cons_append, tiesFrom, endFrom]
    split
    · rw [ih]
    · rw [ih]
theorem endFrom_snoc (lo hi : Int) (l : List Int) (n : Int) : endFrom lo hi (l ++ [n]) = if n.fmod 2 = 0 then ((endFrom lo hi l).1 + 1, (endFrom lo hi l).2) else ((endFrom lo hi l).1, (endFrom lo hi l).2 - 1) := by
  induction l generalizing lo hi with
  | nil => simp only [List.nil_append, endFrom]
  | cons m r ih =>
    simp only [List.cons_append, endFrom]
    split
    · rw [ih]
    · rw [ih]
theorem tiesFrom_length (lo hi : Int) (l : List Int) : (tiesFrom lo hi l).length = l.length + 1 := by
  induction l generalizing lo hi with
  | nil => rfl
  | cons m r ih => simp only [tiesFrom]; split <;> simp [ih]
end Mine
end

section
open PySem PySem.Spec PySem.Calls PySem.W PyProof.Rows PyProof.Rows.LCg
set_option Elab.async false
set_option maxRecDepth 100000
set_option maxHeartbeats 4000000
namespace Mine

/-- an iterator at I of n items; It: how it stands; Ok: what must stand beside it -/
structure Iter (prog : Program) (w : World) (A : Around) (target : Expr) (I : Addr) (n : Nat) (P : Nat → Value → Heap → Prop) (It : Nat → Heap → Prop) (Ok : Heap → Prop) : Prop where
  item : ∀ i (s : Shared) (N : Shared → Prop) (Q : Value → Shared → Prop) (E : Value → Shared → Prop), i < n → It i s.heap → Ok s.heap →
    (∀ v h₁ tk₁, P i v h₁ → It (i + 1) h₁ → Heap.ExtBut I s.heap h₁ → Q v { s with heap := h₁, toks := tk₁ }) →
    wpAny (model prog w) A (pyNext (.ref I)) (fun r s₁ => match r with
      | none => N s₁
      | some v => wpAny (model prog w) A (letOwnedTupleGo target (.ref I) v) (fun _ s₂ => Q v s₂) E s₁) E s
  done : ∀ (s : Shared) (Q : Option Value → Shared → Prop) (E : Value → Shared → Prop), It n s.heap → Ok s.heap → (∀ h₁ tk₁, Heap.ExtBut I s.heap h₁ → Q none { s with heap := h₁, toks := tk₁ }) → wpAny (model prog w) A (pyNext (.ref I)) Q E s
  obj : ∀ i (h : Heap), It i h → ∃ io, h.get? I = some io ∧ ∀ h' : Heap, h'.get? I = some io → It i h'
  self : ∀ i (s : Shared) (Q : Value → Shared → Prop) (E : Value → Shared → Prop), It i s.heap → Q (.ref I) s → wpAny (model prog w) A (pyIter (.ref I)) Q E s

section
variable {prog : Program} {w : World} {A : Around} {E : Value → Shared → Prop} {s : Shared}

theorem Iter.list (hh : A.handled = none) (target : Expr) (I l : Addr) (its : List Value) :
    Iter prog w A target I its.length (fun i v _ => its[i]? = some v) (fun i h => h.IsListIter I l i) (fun h => h.IsList l its.toArray) where
  item := fun i s N Q E hi hit hl hQ => by
    refine wpAny_pyNext_list_item hit hl (x := its[i]) (by simp [hi]) fun h₁ hit₁ hs₁ => ?_
    exact let_go_list hit₁ (hQ _ h₁ s.toks (by simp [hi]) hit₁ hs₁.extBut)
  done := fun s Q E hit hl hQ => wpAny_pyNext_list_end hh hit hl (by simp) fun h₁ he => hQ h₁ s.toks he
  obj := fun i h hit => let ⟨io, h1, _, h3⟩ := listIter_of hit; ⟨io, h1, h3⟩
  self := fun i s Q E hit hQ => wpAny_pyIter_listiter hit hQ

theorem let_go_range {target : Expr} {I : Addr} {x left step : Int} {v : Value} {Q : Unit → Shared → Prop} (hit : IsRangeIter s.heap I x left step) (h : Q () s) :
    wpAny (model prog w) A (letOwnedTupleGo target (.ref I) v) Q E s := by
  have go : ∀ a : Addr, wpAny (model prog w) A (do
      let o ← load I
      match o.cls, o.data with
      | .type n, .fields vs =>
        if ["enumerate", "zip", "dict_itemiterator", "dict_reverseitemiterator", "odict_iterator", "itertools.zip_longest", "itertools.pairwise"].contains n && vs[0]? == some (rawInt a) then
          rule "for.unpacks-the-owned-tuple"
          updateField I 0 .none
      | _, _ => pure ()) Q E s := fun a => by
    refine wpAny_bind (wpAny_load hit ?_)
    dsimp only
    rw [if_neg (by simp)]
    exact wpAny_pure h
  unfold letOwnedTupleGo
  cases target <;> first | exact wpAny_pure h | (cases v <;> first | exact wpAny_pure h | exact go _)

theorem Iter.range (hh : A.handled = none) (target : Expr) (I : Addr) (a : Int) (n : Nat) :
    Iter prog w A target I n (fun i v _ => ∃ t, v = .int (a + (i : Int)) t) (fun i h => IsRangeIter h I (a + (i : Int)) ((n : Int) - (i : Int)) 1) (fun _ => True) where
  item := fun i s N Q E hi hit _ hQ => by
    refine wpAny_pyNext_range_item hit (by omega) fun h₁ hit₁ hs₁ => ?_
    have e1 : a + (i : Int) + 1 = a + ((i + 1 : Nat) : Int) := by omega
    have e2 : (n : Int) - (i : Int) - 1 = (n : Int) - ((i + 1 : Nat) : Int) := by omega
    rw [e1, e2] at hit₁
    exact let_go_range hit₁ (hQ _ h₁ _ ⟨_, rfl⟩ hit₁ hs₁.extBut)
  done := fun s Q E hit _ hQ => wpAny_pyNext_range_end hh hit (by omega) fun h₁ he => hQ h₁ s.toks he
  obj := fun i h hit => ⟨_, hit, fun _ e => e⟩
  self := fun i s Q E hit hQ => wpAny_pyIter_rangeiter hit hQ
end

/-- a block's namespace, its list, the ledger beside -/
structure BlockAt (h₀ : Heap) (L : Addr) (m : Str → Option Value) (h : Heap) (I : Addr) (io : Obj) (C : Addr) (D : Addr) (ys : List Value) (mc : Str → Option Value) (news : List (Addr × Obj)) (oC : Obj) : Prop where
  F : Fr h₀ L h m
  N : News h₀ L h ((I, io) :: (C, oC) :: (D, lst ys) :: news)
  c : NsObj oC mc
  off : ∀ p ∈ news, p.1 ≠ I ∧ p.1 ≠ C ∧ p.1 ≠ D
  ne : I ≠ C ∧ I ≠ D ∧ C ≠ D

section
variable {prog : Program} {w : World} {A : Around} {E : Value → Shared → Prop} {s : Shared} {h₀ : Heap} {L : Addr} {m : Str → Option Value}

/-- what a turn of a comprehension leaves: with an item, or none -/
def CompTurn (h₀ : Heap) (L : Addr) (m : Str → Option Value) (I : Addr) (io : Obj) (C D : Addr) (ys : List Value) (J : List Value → List (Addr × Obj) → Prop) (s : Shared) (y : Option Value) (s' : Shared) : Prop :=
  ∃ h' tk' oC' mc' news', s' = { s with heap := h', toks := tk' } ∧ BlockAt h₀ L m h' I io C D ys mc' news' oC' ∧ J (ys ++ y.toList) news'

theorem comp_loop {elt target iter : Expr} {ifs : List Expr} {gens : List Comprehension} {scope : Scope} {pos : Pos} {depth : Nat} {cenv : Env} {I D : Addr} {n : Nat} {P : Nat → Value → Heap → Prop} {It : Nat → Heap → Prop} {Ok : Heap → Prop} {R : Result → Shared → Prop}
    {news₀ : List (Addr × Obj)} {mc₀ : Str → Option Value} {ys₀ : List Value}
    (hg : gens[depth]? = some ⟨target, iter, ifs, 0⟩) (hg2 : gens[depth + 1]? = none)
    (K : Iter prog w A target I n P It Ok) (J : Nat → List Value → List (Addr × Obj) → Prop) (hn : n ≤ sizeLine)
    (F₀ : Fr h₀ L s.heap m) (N₀ : News h₀ L s.heap ((D, lst ys₀) :: news₀)) (C₀ : s.heap.Ns cenv.locals mc₀) (I₀ : It 0 s.heap)
    (hI : I ≠ L ∧ h₀.get? I = none) (hC : cenv.locals ≠ L ∧ h₀.get? cenv.locals = none) (off₀ : ∀ p ∈ news₀, p.1 ≠ I ∧ p.1 ≠ cenv.locals ∧ p.1 ≠ D) (ne₀ : I ≠ cenv.locals ∧ I ≠ D ∧ cenv.locals ≠ D)
    (hj : J 0 ys₀ news₀) (hys : ∀ i ys news, J i ys news → ys.length ≤ sizeLine)
    (hok : ∀ i ys news h, J i ys news → (∀ b o, h₀.get? b = some o → h.get? b = some o) → News h₀ L h news → Ok h)
    (turn : ∀ i v ys news h tk io mc oC, J i ys news → i < n → P i v h → BlockAt h₀ L m h I io cenv.locals D ys mc news oC → ∀ E',
      wpAny (model prog w) A (assign target cenv v) (fun _ s₂ => wpAny (model prog w) A (forIn ifs true fun c r => if r = true then do let ok ← isTrue c cenv (eval c cenv); pure (ForInStep.yield ok) else pure (ForInStep.yield r))
        (fun ok s₃ => if ok = true then wpAny (model prog w) A (eval elt cenv) (fun y s₄ => CompTurn h₀ L m I io cenv.locals D ys (J (i + 1)) { s with heap := h, toks := tk } (some y) s₄) E' s₃
          else CompTurn h₀ L m I io cenv.locals D ys (J (i + 1)) { s with heap := h, toks := tk } none s₃) E' s₂) E' { s with heap := h, toks := tk })
    (done : ∀ ys news h tk mc, J n ys news → Fr h₀ L h m → News h₀ L h ((D, lst ys) :: news) → h.Ns cenv.locals mc → (∀ p ∈ news, p.1 ≠ cenv.locals ∧ p.1 ≠ D) → R (.ok .next) { s with heap := h, toks := tk }) :
    codeAny (model prog w) A (.compLoop (.ListComp elt gens scope pos) depth (.ref I) (.ref D) cenv) R s := by
  have hturn : compTurn (.ListComp elt gens scope pos) depth (.ref I) (.ref D) cenv = (do
      standAt iter.pos
      match ← pyNext (.ref I) with
      | none => pure (.done .next)
      | some v =>
        letOwnedTupleGo target (.ref I) v
        assign target cenv v
        let mut ok := true
        for c in ifs do
          if ok then ok ← isTrue c cenv (eval c cenv)
        if ok then
          (do let _ ← call (.builtin "list.append") [.ref D, ← eval elt cenv])
        again (.compLoop (.ListComp elt gens scope pos) depth (.ref I) (.ref D) cenv)) := by
    unfold compTurn
    dsimp only
    rw [hg]
    dsimp only
    rw [hg2]
    simp only [bne_self_eq_false, Bool.false_eq_true, if_false]
    rfl
  refine codeAny_loop rfl (fun k s' => ∃ i ys news h tk mc, s' = { s with heap := h, toks := tk } ∧ k = n + 1 - i ∧ i ≤ n ∧ It i h ∧ Fr h₀ L h m ∧ News h₀ L h ((D, lst ys) :: news) ∧ h.Ns cenv.locals mc ∧ (∀ p ∈ news, p.1 ≠ I ∧ p.1 ≠ cenv.locals ∧ p.1 ≠ D) ∧ J i ys news) ?_ (n + 1)
    ⟨0, ys₀, news₀, s.heap, s.toks, mc₀, rfl, rfl, Nat.zero_le _, I₀, F₀, N₀, C₀, off₀, hj⟩
  rintro k s' ⟨i, ys, news, h, tk, mc, rfl, rfl, hin, hIt, F, N, hc, off, hJ⟩
  have hok' : Ok h := hok i ys news h hJ F.keep fun p hp => N p (.tail _ hp)
  show wpAny _ A ((compTurn (.ListComp elt gens scope pos) depth (.ref I) (.ref D) cenv).onRaise (fun x => do noteFrame x cenv; theTreesLotGoes x)) _ _ _
  refine wpAny_noted ?_
  rw [hturn]
  refine wpAny_bind (wpAny_standAt (wpAny_bind ?_))
  by_cases hlt : i < n
  · refine wpAny_mono (K.item i _ (fun _ => False) (fun v s₂ => wpAny (model prog w) A (assign target cenv v) (fun _ s₂ => wpAny (model prog w) A (forIn ifs true fun c r => if r = true then do let ok ← isTrue c cenv (eval c cenv); pure (ForInStep.yield ok) else pure (ForInStep.yield r))
        (fun ok s₃ => if ok = true then wpAny (model prog w) A (eval elt cenv) (fun y s₄ => wpAny (model prog w) A (call (.builtin "list.append") [.ref D, y]) (fun _ s₅ => ∃ m₁, m₁ < n + 1 - i ∧ ∃ i ys news h tk mc, s₅ = { s with heap := h, toks := tk } ∧ m₁ = n + 1 - i ∧ i ≤ n ∧ It i h ∧ Fr h₀ L h m ∧ News h₀ L h ((D, lst ys) :: news) ∧ h.Ns cenv.locals mc ∧ (∀ p ∈ news, p.1 ≠ I ∧ p.1 ≠ cenv.locals ∧ p.1 ≠ D) ∧ J i ys news) (notedBy (model prog w) A cenv fun e s' => R (.error e) s') s₄) (notedBy (model prog w) A cenv fun e s' => R (.error e) s') s₃
          else ∃ m₁, m₁ < n + 1 - i ∧ ∃ i ys news h tk mc, s₃ = { s with heap := h, toks := tk } ∧ m₁ = n + 1 - i ∧ i ≤ n ∧ It i h ∧ Fr h₀ L h m ∧ News h₀ L h ((D, lst ys) :: news) ∧ h.Ns cenv.locals mc ∧ (∀ p ∈ news, p.1 ≠ I ∧ p.1 ≠ cenv.locals ∧ p.1 ≠ D) ∧ J i ys news) (notedBy (model prog w) A cenv fun e s' => R (.error e) s') s₂) (notedBy (model prog w) A cenv fun e s' => R (.error e) s') s₂) _ hlt hIt hok' ?_) ?_ fun _ _ e => e
    · intro v h₁ tk₁ hP hIt₁ hx
      obtain ⟨io, hio, hiof⟩ := K.obj _ _ hIt₁
      have hCI : cenv.locals ≠ I := Ne.symm ne₀.1
      obtain ⟨oC, hoC, hcC⟩ := ns_obj (hc.at' fun o e => hx _ o hCI e)
      have z := N (D, lst ys) (.head _)
      have hdn : News h₀ L h₁ ((I, io) :: (cenv.locals, oC) :: (D, lst ys) :: news) := fun p hp => by
        rcases List.mem_cons.mp hp with rfl | hp
        · exact ⟨hio, hI⟩
        · rcases List.mem_cons.mp hp with rfl | hp
          · exact ⟨hoC, hC⟩
          · rcases List.mem_cons.mp hp with rfl | hp
            · exact ⟨hx _ _ (Ne.symm ne₀.2.1) z.1, z.2⟩
            · exact ⟨hx _ _ (off p hp).1 (N p (.tail _ hp)).1, (N p (.tail _ hp)).2⟩
      have F₁ : Fr h₀ L h₁ m := ⟨F.ns.at' fun o e => hx _ o (Ne.symm hI.1) e, fun b o e => hx b o (fun q => by rw [q, hI.2] at e; cases e) (F.keep b o e), F.above⟩
      have B : BlockAt h₀ L m h₁ I io cenv.locals D ys mc news oC := ⟨F₁, hdn, hcC, off, ne₀⟩
      refine wpAny_mono (turn i v ys news h₁ tk₁ io mc oC hJ hlt hP B _) (fun _ s₂ h₂ => wpAny_mono h₂ (fun ok s₃ h₃ => ?_) fun _ _ e => e) fun _ _ e => e
      cases ok with
      | false =>
        simp only [Bool.false_eq_true, if_false] at h₃ ⊢
        obtain ⟨h', tk', oC', mc', news', rfl, B', hJ'⟩ := h₃
        refine ⟨n + 1 - (i + 1), by omega, i + 1, ys, news', h', tk', mc', rfl, rfl, hlt, hiof _ (B'.N _ (.head _)).1, B'.F, fun p hp => B'.N p (.tail _ (.tail _ hp)), B'.c.ns (B'.N _ (.tail _ (.head _))).1, B'.off, ?_⟩
        simpa using hJ'
      | true =>
        simp only [if_true] at h₃ ⊢
        refine wpAny_mono h₃ (fun y s₄ h₄ => ?_) fun _ _ e => e
        obtain ⟨h', tk', oC', mc', news', rfl, B', hJ'⟩ := h₄
        have zD := (B'.N (D, lst ys) (.tail _ (.tail _ (.head _))))
        refine append_at (hsz := by show ys.toArray.size ≤ sizeLine; rw [List.size_toArray]; exact hys _ _ _ hJ) zD.1 fun h₅ hs₅ hD₅ => ?_
        refine ⟨n + 1 - (i + 1), by omega, i + 1, ys ++ [y], news', h₅, tk', mc', rfl, rfl, hlt, hiof _ (hs₅.extBut _ _ ne₀.2.1 (B'.N _ (.head _)).1), B'.F.change hs₅ zD.2.1 zD.2.2, fun p hp => ?_, (B'.c.ns (B'.N _ (.tail _ (.head _))).1).sameBut hs₅ ne₀.2.2, B'.off, hJ'⟩
        rcases List.mem_cons.mp hp with rfl | hp
        · exact ⟨hD₅.trans (congrArg some (lst_snoc ys y)), zD.2⟩
        · exact ⟨hs₅.extBut _ _ (B'.off p hp).2.2 (B'.N p (.tail _ (.tail _ (.tail _ hp)))).1, (B'.N p (.tail _ (.tail _ (.tail _ hp)))).2⟩
    · intro r s₁ h₁
      cases r with
      | none => exact h₁.elim
      | some v =>
        dsimp only at h₁ ⊢
        refine wpAny_bind (wpAny_mono h₁ (fun _ s₂ h₂ => wpAny_bind (wpAny_mono h₂ (fun _ s₃ h₃ => wpAny_bind (wpAny_mono h₃ (fun ok s₄ h₄ => ?_) fun _ _ e => e)) fun _ _ e => e)) fun _ _ e => e)
        cases ok with
        | false =>
          simp only [Bool.false_eq_true, if_false] at h₄ ⊢
          exact wpAny_pure ⟨rfl, h₄⟩
        | true =>
          simp only [if_true] at h₄ ⊢
          refine wpAny_bind (wpAny_bind (wpAny_mono h₄ (fun y s₅ h₅ => wpAny_bind (wpAny_mono h₅ (fun _ s₆ h₆ => wpAny_pure ?_) fun _ _ e => e)) fun _ _ e => e))
          exact wpAny_pure ⟨rfl, h₆⟩
  · have hin' : i = n := by omega
    subst hin'
    refine K.done _ _ _ hIt hok' fun h₁ tk₁ hx => wpAny_pure ?_
    refine done ys news h₁ tk₁ mc hJ ⟨F.ns.at' fun o e => hx _ o (Ne.symm hI.1) e, fun b o e => hx b o (fun q => by rw [q, hI.2] at e; cases e) (F.keep b o e), F.above⟩ (fun p hp => ?_) (hc.at' fun o e => hx _ o (Ne.symm ne₀.1) e) fun p hp => (off p hp).2
    refine ⟨hx _ _ ?_ (N p hp).1, (N p hp).2⟩
    rcases List.mem_cons.mp hp with rfl | hp
    · exact Ne.symm ne₀.2.1
    · exact (off p hp).1
end
end Mine
end

section
open PySem PySem.Spec PySem.Calls PySem.W PyProof.Rows PyProof.Rows.LCg
set_option Elab.async false
set_option maxRecDepth 100000
set_option maxHeartbeats 4000000
namespace Mine
section
variable {prog : Program} {w : World} {A : Around} {E : Value → Shared → Prop} {s : Shared} {h₀ : Heap} {L : Addr} {m : Str → Option Value} {env : Env}

/-- a block's environment: what it makes beside its namespace -/
def NewBlock (prog : Program) (w : World) (A : Around) (scope : Scope) (cl : List (Str × Addr)) (env : Env) (cl' : Addr → List (Str × Addr)) (extra : Addr → List (Addr × Obj)) : Prop :=
  ∀ (s : Shared) (Q : Env → Shared → Prop) (E : Value → Shared → Prop),
    (∀ h', h'.Ns s.heap.objs.size (fun _ => none) → (∀ b o, s.heap.get? b = some o → h'.get? b = some o) → (∀ p ∈ extra s.heap.objs.size, h'.get? p.1 = some p.2 ∧ s.heap.objs.size < p.1) →
      Q (newEnv scope s.heap.objs.size env.globals (cl' s.heap.objs.size) env.qual none .none (some env) builtinsNs) { s with heap := h' }) →
    wpAny (model prog w) A (newFunctionEnv scope env.globals cl [] env.qual none .none (some env)) Q E s

theorem NewBlock.plain {scope : Scope} {cl : List (Str × Addr)} (hcell : ∀ y ∈ scope.names, y.2 ≠ .cell) (hkind : scope.kind = .function) : NewBlock prog w A scope cl env (fun _ => cl) (fun _ => []) := by
  intro s Q E h
  refine wpAny_newFunctionEnv hcell (by intro y hy; simp at hy) (fun h₁ hns₁ hsb₁ => ?_) hkind
  refine h h₁ hns₁ (fun b o e => hsb₁.extBut b o (Nat.ne_of_lt (Heap.lt_size e)) (Heap.get?_push_of_some _ e)) (fun p hp => nomatch hp)

theorem NewBlock.cell {scope : Scope} {cl : List (Str × Addr)} {a : Str × NameKind} {x : Str} {r : List (Str × NameKind)} (hn : scope.names = a :: (x, .cell) :: r) (ha : a.2 ≠ .cell) (hr : ∀ y ∈ r, y.2 ≠ .cell) :
    NewBlock prog w A scope cl env (fun C => (x, C + 1) :: cl) (fun C => [(C + 1, { cls := .type "cell", data := .cell none })]) := by
  intro s Q E h
  simp only [newFunctionEnv, Option.isSome_some, if_true]
  refine wpAny_bind (wpAny_alloc ?_)
  rw [hn, List.forIn_cons]
  refine wpAny_bind (wpAny_bind ?_)
  rw [if_neg (by simpa using ha)]
  refine wpAny_pure ?_
  dsimp only
  rw [List.forIn_cons]
  refine wpAny_bind ?_
  rw [if_pos (by simp)]
  refine wpAny_bind (wpAny_alloc (wpAny_pure ?_))
  dsimp only
  rw [forIn_yield_id _ (fun y hy c => by
      obtain ⟨name, kind⟩ := y
      have : (kind == NameKind.cell) = false := by simpa using hr _ hy
      simp only [this, Bool.false_eq_true, if_false])]
  refine wpAny_pure ?_
  rw [List.forIn_nil]
  refine wpAny_bind (wpAny_pure (wpAny_pure ?_))
  have hz : (s.heap.push { cls := .type "dict", data := .dict #[] }).objs.size = s.heap.objs.size + 1 := Heap.size_push ..
  rw [hz]
  refine h _ ?_ (fun b o e => Heap.get?_push_of_some _ (Heap.get?_push_of_some _ e)) (fun p hp => ?_)
  · exact (Heap.Ns.new s.heap (.type "dict")).keeps fun b o e => Heap.get?_push_of_some _ e
  · rw [List.mem_singleton.mp hp]
    refine ⟨?_, Nat.lt_succ_self _⟩
    show ((s.heap.push { cls := .type "dict", data := .dict #[] }).push { cls := .type "cell", data := .cell none }).get? (s.heap.objs.size + 1) = _
    rw [← hz]
    exact Heap.get?_push_size _ rfl

theorem comp_block {elt target iter : Expr} {ifs : List Expr} {scope : Scope} {pos : Pos} {cl : List (Str × Addr)} {cl' : Addr → List (Str × Addr)} {extra : Addr → List (Addr × Obj)} {I : Addr} {n : Nat} {P : Nat → Value → Heap → Prop} {It : Nat → Heap → Prop} {Ok : Heap → Prop}
    {RR : Value → Addr → Result → Shared → Prop} {news : List (Addr × Obj)}
    (hnew : NewBlock prog w A scope cl env cl' extra)
    (K : Iter prog w A target I n P It Ok) (J : List (Addr × Obj) → Addr → Nat → List Value → List (Addr × Obj) → Prop) (hn : n ≤ sizeLine)
    (F₀ : Fr h₀ L s.heap m) (N₀ : News h₀ L s.heap news) (I₀ : It 0 s.heap)
    (hI : I ≠ L ∧ h₀.get? I = none) (off₀ : ∀ p ∈ news, p.1 ≠ I)
    (hj : ∀ C, (∀ p ∈ news, p.1 < C) → J (extra C ++ news) C 0 [] (extra C ++ news)) (hys : ∀ N C i ys news, J N C i ys news → ys.length ≤ sizeLine)
    (hok : ∀ N C i ys news h, J N C i ys news → (∀ b o, h₀.get? b = some o → h.get? b = some o) → News h₀ L h news → Ok h)
    (turn : ∀ N C D i v ys news h tk io mc oC, J N C i ys news → i < n → P i v h → BlockAt h₀ L m h I io C D ys mc news oC → ∀ E',
      wpAny (model prog w) A (assign target (compEnvC scope (cl' C) C env) v) (fun _ s₂ => wpAny (model prog w) A (forIn ifs true fun c r => if r = true then do let ok ← isTrue c (compEnvC scope (cl' C) C env) (eval c (compEnvC scope (cl' C) C env)); pure (ForInStep.yield ok) else pure (ForInStep.yield r))
        (fun ok s₃ => if ok = true then wpAny (model prog w) A (eval elt (compEnvC scope (cl' C) C env)) (fun y s₄ => CompTurn h₀ L m I io C D ys (J N C (i + 1)) { s with heap := h, toks := tk } (some y) s₄) E' s₃
          else CompTurn h₀ L m I io C D ys (J N C (i + 1)) { s with heap := h, toks := tk } none s₃) E' s₂) E' { s with heap := h, toks := tk })
    (hRR : ∀ N D C h tk mc ys news, J N C n ys news → Fr h₀ L h m → News h₀ L h ((D, lst ys) :: news) → h.Ns C mc → h₀.get? C = none → C ≠ L → C ≠ D → (∀ p ∈ news, p.1 ≠ C ∧ p.1 ≠ D) → RR (.ref D) C (.ok .next) { s with heap := h, toks := tk }) :
    wpAny (model prog w) A (newList []) (fun acc s₃ => wpAny (model prog w) A (newFunctionEnv scope env.globals cl [] env.qual none .none (some env)) (fun cenv s₄ =>
      codeAny (model prog w) A (.compStart (.ListComp elt [⟨target, iter, ifs, 0⟩] scope pos) 0 (.ref I) acc { cenv with scope := relabel scope env }) (RR acc cenv.locals) s₄) E s₃) E s := by
  refine wpAny_newObj_type ?_
  refine hnew _ _ _ fun h₁ hns₁ up₁ hx₁ => ?_
  dsimp only at hns₁ up₁ hx₁ ⊢
  have hC : (s.heap.push { cls := .type "list", dict := none, data := .seq ([] : List Value).toArray }).objs.size = s.heap.objs.size + 1 := Heap.size_push ..
  have old : ∀ b o, s.heap.get? b = some o → h₁.get? b = some o := fun b o e => up₁ b o (Heap.get?_push_of_some _ e)
  have hD : h₁.get? s.heap.objs.size = some (lst []) := up₁ _ _ (Heap.get?_push_size _ rfl)
  obtain ⟨io, hio, hiof⟩ := K.obj _ _ I₀
  have hIlt : I < s.heap.objs.size := Heap.lt_size hio
  have hLlt : L < s.heap.objs.size := F₀.ns.lt
  have fresh₀ : ∀ a, s.heap.objs.size ≤ a → h₀.get? a = none := fun a ha => by
    cases e : h₀.get? a with
    | none => rfl
    | some o' => exact absurd (Heap.lt_size (F₀.keep a o' e)) (Nat.not_lt.mpr ha)
  rw [hC] at hns₁ hx₁ ⊢
  have hnlt : ∀ p ∈ news, p.1 < s.heap.objs.size := fun p hp => Heap.lt_size (N₀ p hp).1
  have I₁ : It 0 h₁ := hiof _ (old _ _ hio)
  have loop : ∀ s₃ : Shared, s₃ = { s with heap := h₁, toks := s.toks } →
      codeAny (model prog w) A (.compLoop (.ListComp elt [⟨target, iter, ifs, 0⟩] scope pos) 0 (.ref I) (.ref s.heap.objs.size) (compEnvC scope (cl' (s.heap.objs.size + 1)) (s.heap.objs.size + 1) env))
        (RR (.ref s.heap.objs.size) (s.heap.objs.size + 1)) s₃ := by
    rintro s₃ rfl
    refine comp_loop (news₀ := extra (s.heap.objs.size + 1) ++ news) (ys₀ := []) rfl rfl K (J (extra (s.heap.objs.size + 1) ++ news) (s.heap.objs.size + 1)) hn (F₀.keeps old) ?_ hns₁ I₁ hI ⟨Nat.ne_of_gt (Nat.lt_succ_of_lt hLlt), fresh₀ _ (Nat.le_succ _)⟩ ?_ ⟨Nat.ne_of_lt (Nat.lt_succ_of_lt hIlt), Nat.ne_of_lt hIlt, Nat.ne_of_gt (Nat.lt_succ_self _)⟩
      (hj _ fun p hp => Nat.lt_succ_of_lt (hnlt p hp)) (hys _ _) (hok _ _) ?_ ?_
    · intro p hp
      rcases List.mem_cons.mp hp with rfl | hp
      · exact ⟨hD, Nat.ne_of_gt hLlt, fresh₀ _ (Nat.le_refl _)⟩
      · rcases List.mem_append.mp hp with hp | hp
        · have z := hx₁ p hp
          exact ⟨z.1, Nat.ne_of_gt (Nat.lt_trans (Nat.lt_succ_of_lt hLlt) z.2), fresh₀ _ (Nat.le_of_lt (Nat.lt_of_succ_lt z.2))⟩
        · exact ⟨old _ _ (N₀ p hp).1, (N₀ p hp).2⟩
    · intro p hp
      rcases List.mem_append.mp hp with hp | hp
      · have z := (hx₁ p hp).2
        exact ⟨Nat.ne_of_gt (Nat.lt_trans (Nat.lt_succ_of_lt hIlt) z), Nat.ne_of_gt z, Nat.ne_of_gt (Nat.lt_of_succ_lt z)⟩
      · have z := hnlt p hp
        exact ⟨off₀ p hp, Nat.ne_of_lt (Nat.lt_succ_of_lt z), Nat.ne_of_lt z⟩
    · intro i v ys news h tk io mc oC hJ hi hP B E'
      exact turn _ _ _ i v ys news h tk io mc oC hJ hi hP B E'
    · intro ys news h tk mc hJ F N hc off
      exact hRR _ _ _ h tk mc ys news hJ F N hc (fresh₀ _ (Nat.le_succ _)) (Nat.ne_of_gt (Nat.lt_succ_of_lt hLlt)) (Nat.ne_of_gt (Nat.lt_succ_self _)) off
  exact codeAny_compStart_list (loop _ rfl) (K.self 0 _ _ _ I₁ (loop _ rfl))

theorem post_eval {Q : Value → Shared → Prop} {D C : Addr} {h : Heap} {tk : Nat} {mc : Str → Option Value} {ys : List Value} {news : List (Addr × Obj)}
    (F : Fr h₀ L h m) (N : News h₀ L h ((D, lst ys) :: news)) (hc : h.Ns C mc) (h0 : h₀.get? C = none) (hL : C ≠ L) (hD : C ≠ D) (off : ∀ p ∈ news, p.1 ≠ C ∧ p.1 ≠ D)
    (k : ∀ h', Fr h₀ L h' m → News h₀ L h' ((D, lst ys) :: news) → Q (.ref D) { s with heap := h', toks := tk }) :
    compPost (model prog w) A E none Q (.ref D) C (.ok .next) { s with heap := h, toks := tk } := by
  refine ⟨mc, hc, fun h' hs' => k h' (F.change hs' hL h0) fun p hp => ⟨hs'.extBut _ _ ?_ (N p hp).1, (N p hp).2⟩⟩
  rcases List.mem_cons.mp hp with rfl | hp
  · exact Ne.symm hD
  · exact (off p hp).1

theorem post_use {Q : Shared → Prop} {y : Str} {py : Pos} {D C : Addr} {h : Heap} {tk : Nat} {mc : Str → Option Value} {ys : List Value} {news : List (Addr × Obj)} (hL' : env.locals = L)
    (hy : env.kindOf y = some .local) (hp : (env.scope.kind == .class || (env.scope.kind == .module && env.locals != env.globals)) = false)
    (F : Fr h₀ L h m) (N : News h₀ L h ((D, lst ys) :: news)) (hc : h.Ns C mc) (h0 : h₀.get? C = none) (hL : C ≠ L) (hD : C ≠ D) (off : ∀ p ∈ news, p.1 ≠ C ∧ p.1 ≠ D)
    (k : ∀ h', Fr h₀ L h' (fun z => if z = y then some (.ref D) else m z) → News h₀ L h' ((D, lst ys) :: news) → Q { s with heap := h', toks := tk + 1 }) :
    compPost (model prog w) A E (some (assign (.Name y py) env)) (fun _ s' => Q s') (.ref D) C (.ok .next) { s with heap := h, toks := tk } := by
  show wpAny _ A (assign (.Name y py) env (.ref D)) _ _ _
  subst hL'
  refine wpAny_assign_Name (wpAny_storeName_local hy F.ns (fun h₂ hn₂ hs₂ => ?_) hp)
  refine ⟨mc, hc.sameBut hs₂ hL, fun h' hs' => ?_⟩
  refine k h' ((F.set hn₂ hs₂).change hs' hL h0) fun p hp => ?_
  have z := N.set hs₂ p hp
  refine ⟨hs'.extBut _ _ ?_ z.1, z.2⟩
  rcases List.mem_cons.mp hp with rfl | hp
  · exact Ne.symm hD
  · exact (off p hp).1

theorem comp_eval {elt target iter : Expr} {ifs : List Expr} {rest : List Comprehension} {scope : Scope} {pos : Pos} {cl : List (Str × Addr)} {Q : Value → Shared → Prop}
    (hclos : closureFor scope env = pure cl) (hkind : scope.kind = .function) (hnames : ∀ x ∈ scope.names, x.2 = .local → scope.names.lookup x.1 = some .local)
    (h : wpAny (model prog w) A (eval iter env) (fun x s₁ => wpAny (model prog w) A (pyIter x) (fun it s₂ => wpAny (model prog w) A (newList []) (fun acc s₃ =>
      wpAny (model prog w) A (newFunctionEnv scope env.globals cl [] env.qual none .none (some env)) (fun cenv s₄ =>
        codeAny (model prog w) A (.compStart (.ListComp elt (⟨target, iter, ifs, 0⟩ :: rest) scope pos) 0 it acc { cenv with scope := relabel scope env }) (compPost (model prog w) A E none Q acc cenv.locals) s₄) E s₃) E s₂) E s₁) E s)
    (hs : ∀ x, foldedSetIterable iter env x = pure x) :
    wpAny (model prog w) A (eval (.ListComp elt (⟨target, iter, ifs, 0⟩ :: rest) scope pos) env) Q E s := by
  rw [eval_ListComp]
  exact wpAny_comprehension_free (use := none) rfl hs hclos hkind hnames h

theorem comp_use {elt target iter : Expr} {ifs : List Expr} {rest : List Comprehension} {scope : Scope} {pos spos py : Pos} {y : Str} {cl : List (Str × Addr)} {Q : Flow → Shared → Prop}
    (hsw : swapsWith (.ListComp elt (⟨target, iter, ifs, 0⟩ :: rest) scope pos) (some (.Name y py)) spos.line env = pure true)
    (hclos : closureFor scope env = pure cl) (hkind : scope.kind = .function) (hnames : ∀ x ∈ scope.names, x.2 = .local → scope.names.lookup x.1 = some .local)
    (h : wpAny (model prog w) A (eval iter env) (fun x s₁ => wpAny (model prog w) A (pyIter x) (fun it s₂ => wpAny (model prog w) A (newList []) (fun acc s₃ =>
      wpAny (model prog w) A (newFunctionEnv scope env.globals cl [] env.qual none .none (some env)) (fun cenv s₄ =>
        codeAny (model prog w) A (.compStart (.ListComp elt (⟨target, iter, ifs, 0⟩ :: rest) scope pos) 0 it acc { cenv with scope := relabel scope env }) (compPost (model prog w) A E (some (assign (.Name y py) env)) (fun _ s' => Q .next s') acc cenv.locals) s₄) E s₃) E s₂) E s₁) E s)
    (hs : ∀ x, foldedSetIterable iter env x = pure x) :
    wpAny (model prog w) A (exec (.Assign [.Name y py] (.ListComp elt (⟨target, iter, ifs, 0⟩ :: rest) scope pos) spos) env) Q E s := by
  rw [exec_Assign_Name_used _ _ _ _ hsw]
  refine wpAny_bind (wpAny_standAt (wpAny_bind ?_))
  show wpAny _ A (do let _ ← comprehension (.ListComp elt (⟨target, iter, ifs, 0⟩ :: rest) scope pos) scope env _ (newList []) false (eval iter env) (some (assign (.Name y py) env))) _ _ s
  refine wpAny_bind (wpAny_mono (wpAny_comprehension_free (use := some (assign (.Name y py) env)) (Q := fun _ s' => Q .next s') rfl hs hclos hkind hnames h) (fun _ s' hq => wpAny_pure (wpAny_pure hq)) fun _ _ e => e)

/-- a block's own target: one name -/
theorem asg_name {x : Str} {px : Pos} {scope : Scope} {cl : List (Str × Addr)} {I C D : Addr} {io oC : Obj} {v : Value} {ys : List Value} {mc : Str → Option Value} {news : List (Addr × Obj)} {Q : Unit → Shared → Prop}
    (B : BlockAt h₀ L m s.heap I io C D ys mc news oC) (hkind : scope.kind = .function) (hx : scope.names.lookup x = some .local)
    (k : ∀ h' oC', BlockAt h₀ L m h' I io C D ys (fun z => if z = x then some v else mc z) news oC' → Q () { s with heap := h', toks := s.toks + 1 }) :
    wpAny (model prog w) A (assign (.Name x px) (compEnvC scope cl C env) v) Q E s := by
  have zC := B.N (C, oC) (.tail _ (.head _))
  refine wpAny_assign_Name (wpAny_storeName_local (lookup_relabel_local hx) (B.c.ns zC.1) (fun h' hn' hs' => ?_) (by simp [compEnvC, relabel, hkind]))
  obtain ⟨oC', hoC', hc'⟩ := ns_obj hn'
  refine k h' oC' ⟨B.F.change hs' zC.2.1 zC.2.2, fun p hp => ?_, hc', B.off, B.ne⟩
  rcases List.mem_cons.mp hp with rfl | hp
  · exact ⟨hs'.extBut _ _ B.ne.1 (B.N _ (.head _)).1, (B.N _ (.head _)).2⟩
  · rcases List.mem_cons.mp hp with rfl | hp
    · exact ⟨hoC', zC.2⟩
    · have z := B.N p (.tail _ (.tail _ hp))
      refine ⟨hs'.extBut _ _ ?_ z.1, z.2⟩
      rcases List.mem_cons.mp hp with rfl | hp
      · exact Ne.symm B.ne.2.2
      · exact (B.off p hp).2.1

/-- a block's own target: two names, a pair that the ledger bears -/
theorem asg_pair {a b : Str} {pa pb tp : Pos} {kk : Nat} {scope : Scope} {cl : List (Str × Addr)} {I C D T : Addr} {io oC : Obj} {x y : Value} {ys : List Value} {mc : Str → Option Value} {news : List (Addr × Obj)} {Q : Unit → Shared → Prop}
    (hh : A.handled = none) (B : BlockAt h₀ L m s.heap I io C D ys mc news oC) (hT : s.heap.IsTuple T #[x, y]) (hkind : scope.kind = .function) (hxa : scope.names.lookup a = some .local) (hxb : scope.names.lookup b = some .local)
    (k : ∀ h' tk oC', BlockAt h₀ L m h' I io C D ys (fun z => if z = b then some y else if z = a then some x else mc z) news oC' → Q () { s with heap := h', toks := tk }) :
    wpAny (model prog w) A (assign (.Tuple [.Name a pa, .Name b pb] kk tp) (compEnvC scope cl C env) (.ref T)) Q E s := by
  have zC := B.N (C, oC) (.tail _ (.head _))
  refine kcp_assign (env := compEnvC scope cl C env) hh hT (lookup_relabel_local hxa) (lookup_relabel_local hxb) (by simp [compEnvC, relabel, hkind]) (B.c.ns zC.1) fun h' tk hn' hs' => ?_
  obtain ⟨oC', hoC', hc'⟩ := ns_obj hn'
  have hL : L ≠ C := Ne.symm zC.2.1
  refine k h' tk oC' ⟨⟨B.F.ns.at' fun o e => hs' _ o hL e, fun c o e => hs' c o (fun q => by have := zC.2.2; rw [show c = C from q] at e; rw [this] at e; cases e) (B.F.keep c o e), B.F.above⟩, fun p hp => ?_, hc', B.off, B.ne⟩
  rcases List.mem_cons.mp hp with rfl | hp
  · exact ⟨hs' _ _ B.ne.1 (B.N _ (.head _)).1, (B.N _ (.head _)).2⟩
  · rcases List.mem_cons.mp hp with rfl | hp
    · exact ⟨hoC', zC.2⟩
    · have z := B.N p (.tail _ (.tail _ hp))
      refine ⟨hs' _ _ ?_ z.1, z.2⟩
      rcases List.mem_cons.mp hp with rfl | hp
      · exact Ne.symm B.ne.2.2
      · exact (B.off p hp).2.1

theorem CompTurn.keep {I C D : Addr} {io oC : Obj} {ys : List Value} {mc : Str → Option Value} {news news' led : List (Addr × Obj)} {J : List Value → List (Addr × Obj) → Prop} {y : Option Value} {h₁ h' : Heap} {tk' : Nat} {s₁ : Shared}
    (B : BlockAt h₀ L m h₁ I io C D ys mc news oC) (F : Fr h₀ L h' m) (N : News h₀ L h' led) (sub : ∀ p ∈ (I, io) :: (C, oC) :: (D, lst ys) :: news', p ∈ led) (off : ∀ p ∈ news', p.1 ≠ I ∧ p.1 ≠ C ∧ p.1 ≠ D) (hj : J (ys ++ y.toList) news') :
    CompTurn h₀ L m I io C D ys J s₁ y { s₁ with heap := h', toks := tk' } :=
  ⟨h', tk', oC, mc, news', rfl, ⟨F, fun p hp => N p (sub p hp), B.c, off, B.ne⟩, hj⟩

theorem src_list {elt target iter : Expr} {ifs : List Expr} {scope : Scope} {pos : Pos} {cl : List (Str × Addr)} {cl' : Addr → List (Str × Addr)} {extra : Addr → List (Addr × Obj)}
    {RR : Value → Addr → Result → Shared → Prop} {news : List (Addr × Obj)} {l : Addr} {its : List Value} (hh : A.handled = none)
    (hnew : NewBlock prog w A scope cl env cl' extra)
    (J : List (Addr × Obj) → Addr → Nat → List Value → List (Addr × Obj) → Prop) (hn : its.length ≤ 64)
    (F₀ : Fr h₀ L s.heap m) (N₀ : News h₀ L s.heap news) (hl : s.heap.IsList l its.toArray)
    (hj : ∀ C, (∀ p ∈ news, p.1 < C) → J (extra C ++ news) C 0 [] (extra C ++ news)) (hys : ∀ N C i ys news, J N C i ys news → ys.length ≤ i)
    (hok : ∀ N C i ys news h, J N C i ys news → (∀ b o, h₀.get? b = some o → h.get? b = some o) → News h₀ L h news → h.IsList l its.toArray)
    (turn : ∀ I N C D i v ys news h tk io mc oC, J N C i ys news → its[i]? = some v → BlockAt h₀ L m h I io C D ys mc news oC → ∀ E',
      wpAny (model prog w) A (assign target (compEnvC scope (cl' C) C env) v) (fun _ s₂ => wpAny (model prog w) A (forIn ifs true fun c r => if r = true then do let ok ← isTrue c (compEnvC scope (cl' C) C env) (eval c (compEnvC scope (cl' C) C env)); pure (ForInStep.yield ok) else pure (ForInStep.yield r))
        (fun ok s₃ => if ok = true then wpAny (model prog w) A (eval elt (compEnvC scope (cl' C) C env)) (fun y s₄ => CompTurn h₀ L m I io C D ys (J N C (i + 1)) { s with heap := h, toks := tk } (some y) s₄) E' s₃
          else CompTurn h₀ L m I io C D ys (J N C (i + 1)) { s with heap := h, toks := tk } none s₃) E' s₂) E' { s with heap := h, toks := tk })
    (hRR : ∀ N D C h tk mc ys news, J N C its.length ys news → Fr h₀ L h m → News h₀ L h ((D, lst ys) :: news) → h.Ns C mc → h₀.get? C = none → C ≠ L → C ≠ D → (∀ p ∈ news, p.1 ≠ C ∧ p.1 ≠ D) → RR (.ref D) C (.ok .next) { s with heap := h, toks := tk }) :
    wpAny (model prog w) A (pyIter (.ref l)) (fun it s₂ => wpAny (model prog w) A (newList []) (fun acc s₃ => wpAny (model prog w) A (newFunctionEnv scope env.globals cl [] env.qual none .none (some env)) (fun cenv s₄ =>
      codeAny (model prog w) A (.compStart (.ListComp elt [⟨target, iter, ifs, 0⟩] scope pos) 0 it acc { cenv with scope := relabel scope env }) (RR acc cenv.locals) s₄) E s₃) E s₂) E s := by
  refine wpAny_pyIter_list hl ?_
  have hit₀ : (s.heap.push { cls := .type "list_iterator", data := .fields #[.ref l, .int 0 0] }).IsListIter s.heap.objs.size l 0 := ⟨_, Heap.get?_push_size _ rfl, rfl, rfl⟩
  refine comp_block hnew (Iter.list hh target _ l its) (fun N C i ys news => J N C i ys news ∧ i ≤ its.length) (by rw [sizeLine_eq]; omega) (F₀.push _) (fun p hp => ⟨Heap.get?_push_of_some _ (N₀ p hp).1, (N₀ p hp).2⟩) hit₀
    ⟨Nat.ne_of_gt F₀.ns.lt, next_is_new F₀⟩ (fun p hp => Nat.ne_of_lt (Heap.lt_size (N₀ p hp).1)) (fun C hC => ⟨hj C hC, Nat.zero_le _⟩) (fun N C i ys news hJ => by have := hys _ _ _ _ _ hJ.1; have := hJ.2; rw [sizeLine_eq]; omega)
    (fun N C i ys news h hJ => hok N C i ys news h hJ.1) ?_ (fun N D C h tk mc ys news hJ => hRR N D C h tk mc ys news hJ.1)
  intro N C D i v ys news h tk io mc oC hJ hi hP B E'
  have hi' : i + 1 ≤ its.length := hi
  have up : ∀ y s₄, CompTurn h₀ L m s.heap.objs.size io C D ys (J N C (i + 1)) { s with heap := h, toks := tk } y s₄ → CompTurn h₀ L m s.heap.objs.size io C D ys (fun ys news => J N C (i + 1) ys news ∧ i + 1 ≤ its.length) { s with heap := h, toks := tk } y s₄ := by
    rintro y s₄ ⟨h', tk', oC', mc', news', e, B', hJ'⟩
    exact ⟨h', tk', oC', mc', news', e, B', hJ', hi'⟩
  refine wpAny_mono (turn _ N C D i v ys news h tk io mc oC hJ.1 hP B E') (fun _ s₂ h₂ => wpAny_mono h₂ (fun ok s₃ h₃ => ?_) fun _ _ e => e) fun _ _ e => e
  cases ok with
  | true =>
    simp only [if_true] at h₃ ⊢
    exact wpAny_mono h₃ (fun y s₄ h₄ => up _ _ h₄) fun _ _ e => e
  | false =>
    simp only [Bool.false_eq_true, if_false] at h₃ ⊢
    exact up _ _ h₃

theorem src_range {elt target iter : Expr} {ifs : List Expr} {scope : Scope} {pos : Pos} {cl : List (Str × Addr)} {cl' : Addr → List (Str × Addr)} {extra : Addr → List (Addr × Obj)}
    {RR : Value → Addr → Result → Shared → Prop} {news : List (Addr × Obj)} {r : Addr} {a b : Int} {t₀ u₀ v₀ : Tok} {n : Nat} (hh : A.handled = none)
    (hnew : NewBlock prog w A scope cl env cl' extra)
    (J : List (Addr × Obj) → Addr → Nat → List Value → List (Addr × Obj) → Prop) (hn : n ≤ 64)
    (F₀ : Fr h₀ L s.heap m) (N₀ : News h₀ L s.heap news) (hr : IsRange s.heap r a b 1 t₀ u₀ v₀) (hsmall : Builtin.Range.small a b 1 = true) (hsz : Builtin.Range.rangeSize a b 1 = (n : Int))
    (hj : ∀ C, (∀ p ∈ news, p.1 < C) → J (extra C ++ news) C 0 [] (extra C ++ news)) (hys : ∀ N C i ys news, J N C i ys news → ys.length ≤ i)
    (turn : ∀ I N C D i t ys news h tk io mc oC, J N C i ys news → i < n → BlockAt h₀ L m h I io C D ys mc news oC → ∀ E',
      wpAny (model prog w) A (assign target (compEnvC scope (cl' C) C env) (.int (a + (i : Int)) t)) (fun _ s₂ => wpAny (model prog w) A (forIn ifs true fun c r => if r = true then do let ok ← isTrue c (compEnvC scope (cl' C) C env) (eval c (compEnvC scope (cl' C) C env)); pure (ForInStep.yield ok) else pure (ForInStep.yield r))
        (fun ok s₃ => if ok = true then wpAny (model prog w) A (eval elt (compEnvC scope (cl' C) C env)) (fun y s₄ => CompTurn h₀ L m I io C D ys (J N C (i + 1)) { s with heap := h, toks := tk } (some y) s₄) E' s₃
          else CompTurn h₀ L m I io C D ys (J N C (i + 1)) { s with heap := h, toks := tk } none s₃) E' s₂) E' { s with heap := h, toks := tk })
    (hRR : ∀ N D C h tk mc ys news, J N C n ys news → Fr h₀ L h m → News h₀ L h ((D, lst ys) :: news) → h.Ns C mc → h₀.get? C = none → C ≠ L → C ≠ D → (∀ p ∈ news, p.1 ≠ C ∧ p.1 ≠ D) → RR (.ref D) C (.ok .next) { s with heap := h, toks := tk }) :
    wpAny (model prog w) A (pyIter (.ref r)) (fun it s₂ => wpAny (model prog w) A (newList []) (fun acc s₃ => wpAny (model prog w) A (newFunctionEnv scope env.globals cl [] env.qual none .none (some env)) (fun cenv s₄ =>
      codeAny (model prog w) A (.compStart (.ListComp elt [⟨target, iter, ifs, 0⟩] scope pos) 0 it acc { cenv with scope := relabel scope env }) (RR acc cenv.locals) s₄) E s₃) E s₂) E s := by
  refine wpAny_pyIter_range hr hsmall ?_
  rw [hsz]
  have hit₀ : IsRangeIter (s.heap.push { cls := .type "range_iterator", data := .fields #[rawInt a, rawInt (n : Int), rawInt 1] }) s.heap.objs.size (a + ((0 : Nat) : Int)) ((n : Int) - ((0 : Nat) : Int)) 1 := by
    have e1 : a + ((0 : Nat) : Int) = a := by omega
    have e2 : (n : Int) - ((0 : Nat) : Int) = n := by omega
    rw [e1, e2]
    exact Heap.get?_push_size _ rfl
  refine comp_block hnew (Iter.range hh target _ a n) (fun N C i ys news => J N C i ys news ∧ i ≤ n) (by rw [sizeLine_eq]; omega) (F₀.push _) (fun p hp => ⟨Heap.get?_push_of_some _ (N₀ p hp).1, (N₀ p hp).2⟩) hit₀
    ⟨Nat.ne_of_gt F₀.ns.lt, next_is_new F₀⟩ (fun p hp => Nat.ne_of_lt (Heap.lt_size (N₀ p hp).1)) (fun C hC => ⟨hj C hC, Nat.zero_le _⟩) (fun N C i ys news hJ => by have := hys _ _ _ _ _ hJ.1; have := hJ.2; rw [sizeLine_eq]; omega)
    (fun _ _ _ _ _ _ _ _ _ => trivial) ?_ (fun N D C h tk mc ys news hJ => hRR N D C h tk mc ys news hJ.1)
  rintro N C D i v ys news h tk io mc oC hJ hi ⟨t, rfl⟩ B E'
  have hi' : i + 1 ≤ n := hi
  have up : ∀ y s₄, CompTurn h₀ L m s.heap.objs.size io C D ys (J N C (i + 1)) { s with heap := h, toks := tk } y s₄ → CompTurn h₀ L m s.heap.objs.size io C D ys (fun ys news => J N C (i + 1) ys news ∧ i + 1 ≤ n) { s with heap := h, toks := tk } y s₄ := by
    rintro y s₄ ⟨h', tk', oC', mc', news', e, B', hJ'⟩
    exact ⟨h', tk', oC', mc', news', e, B', hJ', hi'⟩
  refine wpAny_mono (turn _ N C D i t ys news h tk io mc oC hJ.1 hi B E') (fun _ s₂ h₂ => wpAny_mono h₂ (fun ok s₃ h₃ => ?_) fun _ _ e => e) fun _ _ e => e
  cases ok with
  | true =>
    simp only [if_true] at h₃ ⊢
    exact wpAny_mono h₃ (fun y s₄ h₄ => up _ _ h₄) fun _ _ e => e
  | false =>
    simp only [Bool.false_eq_true, if_false] at h₃ ⊢
    exact up _ _ h₃
end
end Mine
end

section
open PySem PySem.Spec PySem.Calls PySem.W PyProof.Rows PyProof.Rows.LCg
set_option Elab.async false
set_option maxRecDepth 100000
set_option maxHeartbeats 4000000
namespace Mine
section
variable {prog : Program} {w : World} {A : Around} {E : Value → Shared → Prop} {s : Shared} {h₀ : Heap} {L : Addr} {m : Str → Option Value} {env : Env}

theorem comp_start1 {elt : Expr} {gens : List Comprehension} {scope : Scope} {pos : Pos} {depth : Nat} {target iter : Expr} {ifs : List Expr} {it acc : Value} {cenv : Env} {R : Result → Shared → Prop} (hg : gens[depth]? = some ⟨target, iter, ifs, 0⟩)
    (h0 : codeAny (model prog w) A (.compLoop (.ListComp elt gens scope pos) depth it acc cenv) R s)
    (h : ∀ E', wpAny (model prog w) A (pyIter it) (fun it' s' => codeAny (model prog w) A (.compLoop (.ListComp elt gens scope pos) depth it' acc cenv) R s') E' s) :
    codeAny (model prog w) A (.compStart (.ListComp elt gens scope pos) depth it acc cenv) R s := by
  refine codeAny_of_tree ?_
  show wpAny _ _ ((compStart (.ListComp elt gens scope pos) depth it acc cenv).onRaise (fun x => do noteFrame x cenv; standAt theWindowsPlace)) _ _ s
  refine wpAny_notedAt ?_
  unfold compStart
  have hg' : (clausesOf (.ListComp elt gens scope pos))[depth]? = some ⟨target, iter, ifs, 0⟩ := hg
  rw [hg']
  show wpAny _ _ (ask >>= _) _ _ s
  refine wpAny_bind (wpAny_askSetting (wpAny_ite ?_))
  split
  · first
      | exact wpAny_bind (wpAny_pure (wpAny_pure (And.intro rfl h0)))
      | exact wpAny_pure (And.intro rfl h0)
  · refine wpAny_bind (wpAny_rule ?_)
    show wpAny _ _ (standAt iter.pos >>= _) _ _ s
    exact wpAny_bind (wpAny_standAt (wpAny_bind (wpAny_mono (h _) (fun it' s' h' => wpAny_pure (And.intro rfl h')) fun _ _ x => x)))

/-- what a turn of an outer clause leaves -/
def CompTurn0 (h₀ : Heap) (L : Addr) (m : Str → Option Value) (I : Addr) (io : Obj) (C D : Addr) (J : List Value → List (Addr × Obj) → Prop) (s : Shared) (s' : Shared) : Prop :=
  ∃ h' tk' oC' mc' ys' news', s' = { s with heap := h', toks := tk' } ∧ BlockAt h₀ L m h' I io C D ys' mc' news' oC' ∧ J ys' news'

theorem comp_loop0 {elt target iter target₂ iter₂ : Expr} {ifs₂ : List Expr} {scope : Scope} {pos : Pos} {cenv : Env} {I D : Addr} {n : Nat} {P : Nat → Value → Heap → Prop} {It : Nat → Heap → Prop} {Ok : Heap → Prop} {R : Result → Shared → Prop}
    {news₀ : List (Addr × Obj)} {mc₀ : Str → Option Value} {ys₀ : List Value}
    (K : Iter prog w A target I n P It Ok) (J : Nat → List Value → List (Addr × Obj) → Prop)
    (F₀ : Fr h₀ L s.heap m) (N₀ : News h₀ L s.heap ((D, lst ys₀) :: news₀)) (C₀ : s.heap.Ns cenv.locals mc₀) (I₀ : It 0 s.heap)
    (hI : I ≠ L ∧ h₀.get? I = none) (hC : cenv.locals ≠ L ∧ h₀.get? cenv.locals = none) (off₀ : ∀ p ∈ news₀, p.1 ≠ I ∧ p.1 ≠ cenv.locals ∧ p.1 ≠ D) (ne₀ : I ≠ cenv.locals ∧ I ≠ D ∧ cenv.locals ≠ D)
    (hj : J 0 ys₀ news₀)
    (hok : ∀ i ys news h, J i ys news → (∀ b o, h₀.get? b = some o → h.get? b = some o) → News h₀ L h news → Ok h)
    (hs : ∀ x, foldedSetIterable iter₂ cenv x = pure x)
    (turn : ∀ i v ys news h tk io mc oC, J i ys news → i < n → P i v h → BlockAt h₀ L m h I io cenv.locals D ys mc news oC → ∀ E',
      wpAny (model prog w) A (assign target cenv v) (fun _ s₂ => wpAny (model prog w) A (eval iter₂ cenv) (fun x s₃ => wpAny (model prog w) A (pyIter x) (fun it₂ s₄ =>
        codeAny (model prog w) A (.compStart (.ListComp elt [⟨target, iter, [], 0⟩, ⟨target₂, iter₂, ifs₂, 0⟩] scope pos) 1 it₂ (.ref D) cenv)
          (fun r s₅ => match r with | .ok _ => CompTurn0 h₀ L m I io cenv.locals D (J (i + 1)) { s with heap := h, toks := tk } s₅ | .error _ => False) s₄) E' s₃) E' s₂) E' { s with heap := h, toks := tk })
    (done : ∀ ys news h tk mc, J n ys news → Fr h₀ L h m → News h₀ L h ((D, lst ys) :: news) → h.Ns cenv.locals mc → (∀ p ∈ news, p.1 ≠ cenv.locals ∧ p.1 ≠ D) → R (.ok .next) { s with heap := h, toks := tk }) :
    codeAny (model prog w) A (.compLoop (.ListComp elt [⟨target, iter, [], 0⟩, ⟨target₂, iter₂, ifs₂, 0⟩] scope pos) 0 (.ref I) (.ref D) cenv) R s := by
  have hturn : compTurn (.ListComp elt [⟨target, iter, [], 0⟩, ⟨target₂, iter₂, ifs₂, 0⟩] scope pos) 0 (.ref I) (.ref D) cenv = (do
      standAt iter.pos
      match ← pyNext (.ref I) with
      | none => pure (.done .next)
      | some v =>
        letOwnedTupleGo target (.ref I) v
        assign target cenv v
        let x ← eval iter₂ cenv
        standAt iter₂.pos
        let x ← foldedSetIterable iter₂ cenv x
        let _ ← runOwn (.compStart (.ListComp elt [⟨target, iter, [], 0⟩, ⟨target₂, iter₂, ifs₂, 0⟩] scope pos) 1 (← holding [x] (pyIter x)) (.ref D) cenv) cenv
        again (.compLoop (.ListComp elt [⟨target, iter, [], 0⟩, ⟨target₂, iter₂, ifs₂, 0⟩] scope pos) 0 (.ref I) (.ref D) cenv)) := by
    rfl
  refine codeAny_loop rfl (fun k s' => ∃ i ys news h tk mc, s' = { s with heap := h, toks := tk } ∧ k = n + 1 - i ∧ i ≤ n ∧ It i h ∧ Fr h₀ L h m ∧ News h₀ L h ((D, lst ys) :: news) ∧ h.Ns cenv.locals mc ∧ (∀ p ∈ news, p.1 ≠ I ∧ p.1 ≠ cenv.locals ∧ p.1 ≠ D) ∧ J i ys news) ?_ (n + 1)
    ⟨0, ys₀, news₀, s.heap, s.toks, mc₀, rfl, rfl, Nat.zero_le _, I₀, F₀, N₀, C₀, off₀, hj⟩
  rintro k s' ⟨i, ys, news, h, tk, mc, rfl, rfl, hin, hIt, F, N, hc, off, hJ⟩
  have hok' : Ok h := hok i ys news h hJ F.keep fun p hp => N p (.tail _ hp)
  show wpAny _ A ((compTurn (.ListComp elt [⟨target, iter, [], 0⟩, ⟨target₂, iter₂, ifs₂, 0⟩] scope pos) 0 (.ref I) (.ref D) cenv).onRaise (fun x => do noteFrame x cenv; theTreesLotGoes x)) _ _ _
  refine wpAny_noted ?_
  rw [hturn]
  refine wpAny_bind (wpAny_standAt (wpAny_bind ?_))
  by_cases hlt : i < n
  · refine wpAny_mono (K.item i _ (fun _ => False) (fun v s₂ => wpAny (model prog w) A (assign target cenv v) (fun _ s₂ => wpAny (model prog w) A (eval iter₂ cenv) (fun x s₃ => wpAny (model prog w) A (pyIter x) (fun it₂ s₄ =>
        codeAny (model prog w) A (.compStart (.ListComp elt [⟨target, iter, [], 0⟩, ⟨target₂, iter₂, ifs₂, 0⟩] scope pos) 1 it₂ (.ref D) cenv)
          (fun r s₅ => match r with | .ok _ => ∃ m₁, m₁ < n + 1 - i ∧ ∃ i ys news h tk mc, s₅ = { s with heap := h, toks := tk } ∧ m₁ = n + 1 - i ∧ i ≤ n ∧ It i h ∧ Fr h₀ L h m ∧ News h₀ L h ((D, lst ys) :: news) ∧ h.Ns cenv.locals mc ∧ (∀ p ∈ news, p.1 ≠ I ∧ p.1 ≠ cenv.locals ∧ p.1 ≠ D) ∧ J i ys news | .error _ => False) s₄) (notedBy (model prog w) A cenv fun e s' => R (.error e) s') s₃) (notedBy (model prog w) A cenv fun e s' => R (.error e) s') s₂) (notedBy (model prog w) A cenv fun e s' => R (.error e) s') s₂) _ hlt hIt hok' ?_) ?_ fun _ _ e => e
    · intro v h₁ tk₁ hP hIt₁ hx
      obtain ⟨io, hio, hiof⟩ := K.obj _ _ hIt₁
      have hCI : cenv.locals ≠ I := Ne.symm ne₀.1
      obtain ⟨oC, hoC, hcC⟩ := ns_obj (hc.at' fun o e => hx _ o hCI e)
      have z := N (D, lst ys) (.head _)
      have hdn : News h₀ L h₁ ((I, io) :: (cenv.locals, oC) :: (D, lst ys) :: news) := fun p hp => by
        rcases List.mem_cons.mp hp with rfl | hp
        · exact ⟨hio, hI⟩
        · rcases List.mem_cons.mp hp with rfl | hp
          · exact ⟨hoC, hC⟩
          · rcases List.mem_cons.mp hp with rfl | hp
            · exact ⟨hx _ _ (Ne.symm ne₀.2.1) z.1, z.2⟩
            · exact ⟨hx _ _ (off p hp).1 (N p (.tail _ hp)).1, (N p (.tail _ hp)).2⟩
      have F₁ : Fr h₀ L h₁ m := ⟨F.ns.at' fun o e => hx _ o (Ne.symm hI.1) e, fun b o e => hx b o (fun q => by rw [q, hI.2] at e; cases e) (F.keep b o e), F.above⟩
      have B : BlockAt h₀ L m h₁ I io cenv.locals D ys mc news oC := ⟨F₁, hdn, hcC, off, ne₀⟩
      refine wpAny_mono (turn i v ys news h₁ tk₁ io mc oC hJ hlt hP B _) (fun _ s₂ h₂ => wpAny_mono h₂ (fun x s₃ h₃ => wpAny_mono h₃ (fun it₂ s₄ h₄ => codeAny_mono h₄ fun r s₅ h₅ => ?_) fun _ _ e => e) fun _ _ e => e) fun _ _ e => e
      cases r with
      | error e => exact h₅.elim
      | ok f =>
        obtain ⟨h', tk', oC', mc', ys', news', rfl, B', hJ'⟩ := h₅
        exact ⟨n + 1 - (i + 1), by omega, i + 1, ys', news', h', tk', mc', rfl, rfl, hlt, hiof _ (B'.N _ (.head _)).1, B'.F, fun p hp => B'.N p (.tail _ (.tail _ hp)), B'.c.ns (B'.N _ (.tail _ (.head _))).1, B'.off, hJ'⟩
    · intro r s₁ h₁
      cases r with
      | none => exact h₁.elim
      | some v =>
        dsimp only at h₁ ⊢
        refine wpAny_bind (wpAny_mono h₁ (fun _ s₂ h₂ => wpAny_bind (wpAny_mono h₂ (fun _ s₃ h₃ => wpAny_bind (wpAny_mono h₃ (fun x s₄ h₄ => ?_) fun _ _ e => e)) fun _ _ e => e)) fun _ _ e => e)
        refine wpAny_bind (wpAny_standAt (wpAny_bind ?_))
        rw [hs]
        refine wpAny_pure (wpAny_bind (wpAny_holding (wpAny_mono h₄ (fun it₂ s₅ h₅ => wpAny_bind (wpAny_runOwn (codeAny_mono h₅ fun r s₆ h₆ => ?_))) fun _ _ e => e)))
        cases r with
        | error e => exact h₆.elim
        | ok f => exact wpAny_pure ⟨rfl, h₆⟩
  · have hin' : i = n := by omega
    subst hin'
    refine K.done _ _ _ hIt hok' fun h₁ tk₁ hx => wpAny_pure ?_
    refine done ys news h₁ tk₁ mc hJ ⟨F.ns.at' fun o e => hx _ o (Ne.symm hI.1) e, fun b o e => hx b o (fun q => by rw [q, hI.2] at e; cases e) (F.keep b o e), F.above⟩ (fun p hp => ?_) (hc.at' fun o e => hx _ o (Ne.symm ne₀.1) e) fun p hp => (off p hp).2
    refine ⟨hx _ _ ?_ (N p hp).1, (N p hp).2⟩
    rcases List.mem_cons.mp hp with rfl | hp
    · exact Ne.symm ne₀.2.1
    · exact (off p hp).1

theorem src2_list {elt target iter target₂ iter₂ : Expr} {ifs₂ : List Expr} {scope : Scope} {pos : Pos} {cl : List (Str × Addr)}
    {RR : Value → Addr → Result → Shared → Prop} {news : List (Addr × Obj)} {l : Addr} {its : List Value} (hh : A.handled = none)
    (hnew : NewBlock prog w A scope cl env (fun _ => cl) (fun _ => []))
    (J : Nat → List Value → List (Addr × Obj) → Prop)
    (F₀ : Fr h₀ L s.heap m) (N₀ : News h₀ L s.heap news) (hl : s.heap.IsList l its.toArray)
    (hj : J 0 [] news)
    (hok : ∀ i ys news h, J i ys news → (∀ b o, h₀.get? b = some o → h.get? b = some o) → News h₀ L h news → h.IsList l its.toArray)
    (hs : ∀ C x, foldedSetIterable iter₂ (compEnvC scope cl C env) x = pure x)
    (turn : ∀ I C D i v ys news h tk io mc oC, J i ys news → its[i]? = some v → BlockAt h₀ L m h I io C D ys mc news oC → ∀ E',
      wpAny (model prog w) A (assign target (compEnvC scope cl C env) v) (fun _ s₂ => wpAny (model prog w) A (eval iter₂ (compEnvC scope cl C env)) (fun x s₃ => wpAny (model prog w) A (pyIter x) (fun it₂ s₄ =>
        codeAny (model prog w) A (.compStart (.ListComp elt [⟨target, iter, [], 0⟩, ⟨target₂, iter₂, ifs₂, 0⟩] scope pos) 1 it₂ (.ref D) (compEnvC scope cl C env))
          (fun r s₅ => match r with | .ok _ => CompTurn0 h₀ L m I io C D (J (i + 1)) { s with heap := h, toks := tk } s₅ | .error _ => False) s₄) E' s₃) E' s₂) E' { s with heap := h, toks := tk })
    (hRR : ∀ D C h tk mc ys news, J its.length ys news → Fr h₀ L h m → News h₀ L h ((D, lst ys) :: news) → h.Ns C mc → h₀.get? C = none → C ≠ L → C ≠ D → (∀ p ∈ news, p.1 ≠ C ∧ p.1 ≠ D) → RR (.ref D) C (.ok .next) { s with heap := h, toks := tk }) :
    wpAny (model prog w) A (pyIter (.ref l)) (fun it s₂ => wpAny (model prog w) A (newList []) (fun acc s₃ => wpAny (model prog w) A (newFunctionEnv scope env.globals cl [] env.qual none .none (some env)) (fun cenv s₄ =>
      codeAny (model prog w) A (.compStart (.ListComp elt [⟨target, iter, [], 0⟩, ⟨target₂, iter₂, ifs₂, 0⟩] scope pos) 0 it acc { cenv with scope := relabel scope env }) (RR acc cenv.locals) s₄) E s₃) E s₂) E s := by
  refine wpAny_pyIter_list hl ?_
  have hit₀ : (s.heap.push { cls := .type "list_iterator", data := .fields #[.ref l, .int 0 0] }).IsListIter s.heap.objs.size l 0 := ⟨_, Heap.get?_push_size _ rfl, rfl, rfl⟩
  have F₁ := F₀.push { cls := .type "list_iterator", data := .fields #[.ref l, .int 0 0] }
  have N₁ : News h₀ L (s.heap.push { cls := .type "list_iterator", data := .fields #[.ref l, .int 0 0] }) news := fun p hp => ⟨Heap.get?_push_of_some _ (N₀ p hp).1, (N₀ p hp).2⟩
  have hI : s.heap.objs.size ≠ L ∧ h₀.get? s.heap.objs.size = none := ⟨Nat.ne_of_gt F₀.ns.lt, next_is_new F₀⟩
  have offI : ∀ p ∈ news, p.1 ≠ s.heap.objs.size := fun p hp => Nat.ne_of_lt (Heap.lt_size (N₀ p hp).1)
  generalize s.heap.objs.size = I at hit₀ hI offI
  generalize (s.heap.push { cls := .type "list_iterator", data := .fields #[.ref l, .int 0 0] }) = H at hit₀ F₁ N₁
  refine wpAny_newObj_type ?_
  refine hnew _ _ _ fun h₁ hns₁ up₁ hx₁ => ?_
  dsimp only at hns₁ up₁ hx₁ ⊢
  have hC : (H.push { cls := .type "list", dict := none, data := .seq ([] : List Value).toArray }).objs.size = H.objs.size + 1 := Heap.size_push ..
  have old : ∀ b o, H.get? b = some o → h₁.get? b = some o := fun b o e => up₁ b o (Heap.get?_push_of_some _ e)
  have hD : h₁.get? H.objs.size = some (lst []) := up₁ _ _ (Heap.get?_push_size _ rfl)
  obtain ⟨io, hio, _, hiof⟩ := listIter_of hit₀
  have hIlt : I < H.objs.size := Heap.lt_size hio
  have hLlt : L < H.objs.size := F₁.ns.lt
  have fresh₀ : ∀ a, H.objs.size ≤ a → h₀.get? a = none := fun a ha => by
    cases e : h₀.get? a with
    | none => rfl
    | some o' => exact absurd (Heap.lt_size (F₁.keep a o' e)) (Nat.not_lt.mpr ha)
  rw [hC] at hns₁ ⊢
  have hnlt : ∀ p ∈ news, p.1 < H.objs.size := fun p hp => Heap.lt_size (N₁ p hp).1
  have I₁ : h₁.IsListIter I l 0 := hiof _ (old _ _ hio)
  have loop : ∀ s₃ : Shared, s₃ = { s with heap := h₁, toks := s.toks } →
      codeAny (model prog w) A (.compLoop (.ListComp elt [⟨target, iter, [], 0⟩, ⟨target₂, iter₂, ifs₂, 0⟩] scope pos) 0 (.ref I) (.ref H.objs.size) (compEnvC scope cl (H.objs.size + 1) env))
        (RR (.ref H.objs.size) (H.objs.size + 1)) s₃ := by
    rintro s₃ rfl
    refine comp_loop0 (news₀ := news) (ys₀ := []) (Iter.list hh target I l its) J (F₁.keeps old) ?_ hns₁ I₁ hI ⟨Nat.ne_of_gt (Nat.lt_succ_of_lt hLlt), fresh₀ _ (Nat.le_succ _)⟩ ?_ ⟨Nat.ne_of_lt (Nat.lt_succ_of_lt hIlt), Nat.ne_of_lt hIlt, Nat.ne_of_gt (Nat.lt_succ_self _)⟩
      hj hok (hs _) ?_ ?_
    · intro p hp
      rcases List.mem_cons.mp hp with rfl | hp
      · exact ⟨hD, Nat.ne_of_gt hLlt, fresh₀ _ (Nat.le_refl _)⟩
      · exact ⟨old _ _ (N₁ p hp).1, (N₁ p hp).2⟩
    · intro p hp
      have z := hnlt p hp
      exact ⟨offI p hp, Nat.ne_of_lt (Nat.lt_succ_of_lt z), Nat.ne_of_lt z⟩
    · intro i v ys news h tk io mc oC hJ hi hP B E'
      exact turn _ _ _ i v ys news h tk io mc oC hJ hP B E'
    · intro ys news h tk mc hJ F N hc off
      exact hRR _ _ h tk mc ys news hJ F N hc (fresh₀ _ (Nat.le_succ _)) (Nat.ne_of_gt (Nat.lt_succ_of_lt hLlt)) (Nat.ne_of_gt (Nat.lt_succ_self _)) off
  exact codeAny_compStart_list (loop _ rfl) (wpAny_pyIter_listiter I₁ (loop _ rfl))

theorem src_in {elt target iter : Expr} {ifs : List Expr} {gens : List Comprehension} {scope : Scope} {pos : Pos} {depth : Nat} {cenv : Env} {D l : Addr} {its : List Value} {R : Result → Shared → Prop}
    {news₀ : List (Addr × Obj)} {mc₀ : Str → Option Value} {ys₀ : List Value} (hh : A.handled = none)
    (hg : gens[depth]? = some ⟨target, iter, ifs, 0⟩) (hg2 : gens[depth + 1]? = none)
    (J : Nat → List Value → List (Addr × Obj) → Prop) (hn : its.length ≤ 64)
    (F₀ : Fr h₀ L s.heap m) (N₀ : News h₀ L s.heap ((D, lst ys₀) :: news₀)) (C₀ : s.heap.Ns cenv.locals mc₀) (hl : s.heap.IsList l its.toArray)
    (hC : cenv.locals ≠ L ∧ h₀.get? cenv.locals = none) (off₀ : ∀ p ∈ news₀, p.1 ≠ cenv.locals ∧ p.1 ≠ D) (ne₀ : cenv.locals ≠ D)
    (hj : J 0 ys₀ news₀) (hys : ∀ i ys news, J i ys news → ys.length ≤ sizeLine)
    (hok : ∀ i ys news h, J i ys news → (∀ b o, h₀.get? b = some o → h.get? b = some o) → News h₀ L h news → h.IsList l its.toArray)
    (turn : ∀ I i v ys news h tk io mc oC, J i ys news → its[i]? = some v → BlockAt h₀ L m h I io cenv.locals D ys mc news oC → ∀ E',
      wpAny (model prog w) A (assign target cenv v) (fun _ s₂ => wpAny (model prog w) A (forIn ifs true fun c r => if r = true then do let ok ← isTrue c cenv (eval c cenv); pure (ForInStep.yield ok) else pure (ForInStep.yield r))
        (fun ok s₃ => if ok = true then wpAny (model prog w) A (eval elt cenv) (fun y s₄ => CompTurn h₀ L m I io cenv.locals D ys (J (i + 1)) { s with heap := h, toks := tk } (some y) s₄) E' s₃
          else CompTurn h₀ L m I io cenv.locals D ys (J (i + 1)) { s with heap := h, toks := tk } none s₃) E' s₂) E' { s with heap := h, toks := tk })
    (done : ∀ ys news h tk mc, J its.length ys news → Fr h₀ L h m → News h₀ L h ((D, lst ys) :: news) → h.Ns cenv.locals mc → (∀ p ∈ news, p.1 ≠ cenv.locals ∧ p.1 ≠ D) → R (.ok .next) { s with heap := h, toks := tk }) :
    wpAny (model prog w) A (pyIter (.ref l)) (fun it s₂ => codeAny (model prog w) A (.compStart (.ListComp elt gens scope pos) depth it (.ref D) cenv) R s₂) E s := by
  refine wpAny_pyIter_list hl ?_
  have hit₀ : (s.heap.push { cls := .type "list_iterator", data := .fields #[.ref l, .int 0 0] }).IsListIter s.heap.objs.size l 0 := ⟨_, Heap.get?_push_size _ rfl, rfl, rfl⟩
  have up : ∀ b o, s.heap.get? b = some o → (s.heap.push { cls := .type "list_iterator", data := .fields #[.ref l, .int 0 0] }).get? b = some o := fun b o e => Heap.get?_push_of_some _ e
  have F₁ := F₀.push { cls := .type "list_iterator", data := .fields #[.ref l, .int 0 0] }
  have N₁ : News h₀ L (s.heap.push { cls := .type "list_iterator", data := .fields #[.ref l, .int 0 0] }) ((D, lst ys₀) :: news₀) := fun p hp => ⟨up _ _ (N₀ p hp).1, (N₀ p hp).2⟩
  have C₁ := C₀.keeps up
  have hI : s.heap.objs.size ≠ L ∧ h₀.get? s.heap.objs.size = none := ⟨Nat.ne_of_gt F₀.ns.lt, next_is_new F₀⟩
  have offI : ∀ p ∈ (D, lst ys₀) :: news₀, p.1 ≠ s.heap.objs.size := fun p hp => Nat.ne_of_lt (Heap.lt_size (N₀ p hp).1)
  have hCI : s.heap.objs.size ≠ cenv.locals := Nat.ne_of_gt C₀.lt
  generalize s.heap.objs.size = I at hit₀ hI offI hCI
  generalize (s.heap.push { cls := .type "list_iterator", data := .fields #[.ref l, .int 0 0] }) = H at hit₀ F₁ N₁ C₁
  have loop : ∀ s₃ : Shared, s₃ = { s with heap := H } → codeAny (model prog w) A (.compLoop (.ListComp elt gens scope pos) depth (.ref I) (.ref D) cenv) R s₃ := by
    rintro s₃ rfl
    exact comp_loop hg hg2 (Iter.list hh target I l its) J (by rw [sizeLine_eq]; omega) F₁ N₁ C₁ hit₀ hI hC (fun p hp => ⟨offI p (.tail _ hp), off₀ p hp⟩) ⟨hCI, Ne.symm (offI _ (.head _)), ne₀⟩ hj hys hok
      (fun i v ys news h tk io mc oC hJ _ hP B E' => turn I i v ys news h tk io mc oC hJ hP B E') done
  exact comp_start1 hg (loop _ rfl) fun E' => wpAny_pyIter_listiter hit₀ (loop _ rfl)
end
end Mine
end

section
open PySem PySem.Spec PySem.Calls PySem.W PyProof.Rows
set_option Elab.async false
set_option maxRecDepth 100000
namespace Mine

/-- a tree of ties whose differences are all there, once each -/
structure Graceful (ps : List (Int × Int)) (N : Int) : Prop where
  diffs : (ps.map fun p => ((p.2 - p.1).natAbs : Int)).Perm (rangeKs 1 N.toNat)
  within : ∀ p ∈ ps, 0 ≤ p.1 ∧ p.1 ≤ N ∧ 0 ≤ p.2 ∧ p.2 ≤ N
  conn : ∀ S : Int → Prop, S 0 → (∀ p ∈ ps, S p.1 ↔ S p.2) → ∀ k, 0 ≤ k → k ≤ N → S k

theorem rangeKs_sorted (a : Int) (n : Nat) : (rangeKs a n).Pairwise (· < ·) := by
  unfold rangeKs
  rw [List.pairwise_map]
  refine List.Pairwise.imp ?_ List.pairwise_lt_range
  intro i j h
  omega
theorem rangeKs_nodup (a : Int) (n : Nat) : (rangeKs a n).Nodup := (rangeKs_sorted a n).imp fun h => by omega
theorem mem_rangeKs_iff {a k : Int} {n : Nat} : k ∈ rangeKs a n ↔ a ≤ k ∧ k < a + (n : Int) := by
  constructor
  · exact mem_rangeKs
  · rintro ⟨h1, h2⟩
    unfold rangeKs
    refine List.mem_map.mpr ⟨(k - a).toNat, List.mem_range.mpr (by omega), by omega⟩
/-- two lists of ints, one order, the same items: one list -/
theorem sorted_eq : ∀ {a b : List Int}, a.Perm b → a.Pairwise (· ≤ ·) → b.Pairwise (· ≤ ·) → a = b
  | [], b, p, _, _ => (List.Perm.nil_eq p)
  | x :: r, [], p, _, _ => absurd p.length_eq (by simp)
  | x :: r, y :: t, p, ha, hb => by
    have hx := List.pairwise_cons.mp ha
    have hy := List.pairwise_cons.mp hb
    have e : x = y := by
      have h1 : y ∈ x :: r := p.mem_iff.mpr (.head _)
      have h2 : x ∈ y :: t := p.mem_iff.mp (.head _)
      rcases List.mem_cons.mp h1 with h | h
      · exact h.symm
      · rcases List.mem_cons.mp h2 with h' | h'
        · exact h'
        · exact Int.le_antisymm (hx.1 _ h) (hy.1 _ h')
    subst e
    rw [sorted_eq (List.Perm.cons_inv p) hx.2 hy.2]
theorem sorted_range {a : List Int} {x : Int} {n : Nat} (p : a.Perm (rangeKs x n)) (h : a.Pairwise (· ≤ ·)) : a = rangeKs x n :=
  sorted_eq p h ((rangeKs_sorted x n).imp Int.le_of_lt)

/-- what a turn of the search finds -/
def theres (ps : List (Int × Int)) (F : List Int) (here : Int) : List Int :=
  ps.flatMap fun p => (if p.1 = here ∧ p.2 ∉ F then [p.2] else []) ++ (if p.2 = here ∧ p.1 ∉ F then [p.1] else [])

theorem mem_theres {ps : List (Int × Int)} {F : List Int} {here y : Int} : y ∈ theres ps F here ↔ y ∉ F ∧ ∃ p ∈ ps, (p.1 = here ∧ p.2 = y) ∨ (p.2 = here ∧ p.1 = y) := by
  unfold theres
  rw [List.mem_flatMap]
  constructor
  · rintro ⟨p, hp, hy⟩
    rcases List.mem_append.mp hy with hy | hy
    · split at hy
      · rename_i h
        rw [List.mem_singleton.mp hy]
        exact ⟨h.2, p, hp, .inl ⟨h.1, rfl⟩⟩
      · cases hy
    · split at hy
      · rename_i h
        rw [List.mem_singleton.mp hy]
        exact ⟨h.2, p, hp, .inr ⟨h.1, rfl⟩⟩
      · cases hy
  · rintro ⟨hF, p, hp, ⟨h1, rfl⟩ | ⟨h1, rfl⟩⟩
    · exact ⟨p, hp, List.mem_append.mpr (.inl (by rw [if_pos ⟨h1, hF⟩]; exact .head _))⟩
    · exact ⟨p, hp, List.mem_append.mpr (.inr (by rw [if_pos ⟨h1, hF⟩]; exact .head _))⟩

theorem theres_nodup {F : List Int} {here : Int} : ∀ {ps : List (Int × Int)}, (ps.map fun p => ((p.2 - p.1).natAbs : Int)).Nodup → (∀ p ∈ ps, p.1 ≠ p.2) → (theres ps F here).Nodup
  | [], _, _ => List.nodup_nil
  | p :: r, hn, hp => by
    have hn' := List.nodup_cons.mp hn
    have ih := theres_nodup (F := F) (here := here) hn'.2 fun q hq => hp q (.tail _ hq)
    have hne := hp p (.head _)
    have far : ∀ y ∈ theres r F here, ((y - here).natAbs : Int) ≠ ((p.2 - p.1).natAbs : Int) := by
      intro y hy e
      obtain ⟨_, q, hq, h | h⟩ := mem_theres.mp hy
      · apply hn'.1
        refine List.mem_map.mpr ⟨q, hq, ?_⟩
        show ((q.2 - q.1).natAbs : Int) = ((p.2 - p.1).natAbs : Int)
        rw [← e, ← h.1, ← h.2]
      · apply hn'.1
        refine List.mem_map.mpr ⟨q, hq, ?_⟩
        show ((q.2 - q.1).natAbs : Int) = ((p.2 - p.1).natAbs : Int)
        rw [← e, ← h.1, ← h.2]
        omega
    have hc : theres (p :: r) F here = ((if p.1 = here ∧ p.2 ∉ F then [p.2] else []) ++ (if p.2 = here ∧ p.1 ∉ F then [p.1] else [])) ++ theres r F here := rfl
    rw [hc]
    by_cases h1 : p.1 = here ∧ p.2 ∉ F
    · have h2 : ¬ (p.2 = here ∧ p.1 ∉ F) := fun h => hne (h1.1.trans h.1.symm)
      rw [if_pos h1, if_neg h2]
      refine List.nodup_cons.mpr ⟨fun h => far _ h ?_, ih⟩
      rw [h1.1]
    · rw [if_neg h1]
      by_cases h2 : p.2 = here ∧ p.1 ∉ F
      · rw [if_pos h2]
        refine List.nodup_cons.mpr ⟨fun h => far _ h ?_, ih⟩
        rw [h2.1]; omega
      · rw [if_neg h2]; exact ih

/-- how the search stands: what is found, all beside the first i too -/
structure Bfs (ps : List (Int × Int)) (N : Int) (i : Nat) (F : List Int) : Prop where
  nodup : F.Nodup
  within : ∀ x ∈ F, 0 ≤ x ∧ x ≤ N
  zero : (0 : Int) ∈ F
  le : i ≤ F.length
  done : ∀ j x, j < i → F[j]? = some x → ∀ p ∈ ps, (p.1 = x → p.2 ∈ F) ∧ (p.2 = x → p.1 ∈ F)

section
variable {ps : List (Int × Int)} {N : Int} {F : List Int} {i : Nat}
theorem Graceful.ne (G : Graceful ps N) : ∀ p ∈ ps, p.1 ≠ p.2 := by
  intro p hp e
  have h := G.diffs.mem_iff.mp (List.mem_map.mpr ⟨p, hp, rfl⟩)
  have := (mem_rangeKs_iff.mp h).1
  rw [e] at this
  simp at this
theorem Graceful.nodup (G : Graceful ps N) : (ps.map fun p => ((p.2 - p.1).natAbs : Int)).Nodup := G.diffs.nodup_iff.mpr (rangeKs_nodup _ _)
theorem Bfs.start (hN : 0 ≤ N) : Bfs ps N 0 [0] := ⟨by simp, by simpa using hN, .head _, Nat.zero_le _, fun j _ h => absurd h (Nat.not_lt_zero _)⟩
theorem Bfs.step (G : Graceful ps N) (B : Bfs ps N i F) {x : Int} (hx : F[i]? = some x) : Bfs ps N (i + 1) (F ++ theres ps F x) := by
  have hlt : i < F.length := (List.getElem?_eq_some_iff.mp hx).1
  refine ⟨?_, ?_, List.mem_append.mpr (.inl B.zero), ?_, ?_⟩
  · rw [List.nodup_append]
    refine ⟨B.nodup, theres_nodup G.nodup G.ne, ?_⟩
    intro a ha b hb e
    exact (mem_theres.mp hb).1 (e ▸ ha)
  · intro y hy
    rcases List.mem_append.mp hy with hy | hy
    · exact B.within y hy
    · obtain ⟨_, p, hp, h | h⟩ := mem_theres.mp hy
      · have := G.within p hp; rw [← h.2]; exact ⟨this.2.2.1, this.2.2.2⟩
      · have := G.within p hp; rw [← h.2]; exact ⟨this.1, this.2.1⟩
  · rw [List.length_append]; omega
  · intro j y hj hy p hp
    have hy' : F[j]? = some y := by rwa [List.getElem?_append_left (by omega)] at hy
    by_cases e : j = i
    · subst e
      rw [hx] at hy'
      cases hy'
      refine ⟨fun h => ?_, fun h => ?_⟩
      · by_cases hF : p.2 ∈ F
        · exact List.mem_append.mpr (.inl hF)
        · exact List.mem_append.mpr (.inr (mem_theres.mpr ⟨hF, p, hp, .inl ⟨h, rfl⟩⟩))
      · by_cases hF : p.1 ∈ F
        · exact List.mem_append.mpr (.inl hF)
        · exact List.mem_append.mpr (.inr (mem_theres.mpr ⟨hF, p, hp, .inr ⟨h, rfl⟩⟩))
    · have z := B.done j y (by omega) hy' p hp
      exact ⟨fun h => List.mem_append.mpr (.inl (z.1 h)), fun h => List.mem_append.mpr (.inl (z.2 h))⟩
/-- no more than the places -/
theorem nodup_len : ∀ {l k : List Int}, l.Nodup → (∀ x ∈ l, x ∈ k) → l.length ≤ k.length
  | [], _, _, _ => Nat.zero_le _
  | x :: r, k, hn, hs => by
    have hn' := List.nodup_cons.mp hn
    have hx := hs x (.head _)
    have := nodup_len (l := r) (k := k.erase x) hn'.2 fun y hy => (List.mem_erase_of_ne (fun e : y = x => hn'.1 (e ▸ hy))).mpr (hs y (.tail _ hy))
    rw [List.length_erase_of_mem hx] at this
    have h0 : 0 < k.length := List.length_pos_of_mem hx
    simp only [List.length_cons]
    omega
theorem nodup_perm {l k : List Int} (hl : l.Nodup) (hk : k.Nodup) (h : ∀ x, x ∈ l ↔ x ∈ k) : l.Perm k := by
  induction l generalizing k with
  | nil =>
    cases k with
    | nil => exact .nil
    | cons y t => exact absurd ((h y).mpr (.head _)) (by simp)
  | cons x r ih =>
    have hl' := List.nodup_cons.mp hl
    have hx := (h x).mp (.head _)
    refine (List.Perm.cons x (ih hl'.2 (hk.erase x) fun y => ?_)).trans (List.perm_cons_erase hx).symm
    constructor
    · intro hy
      exact (List.mem_erase_of_ne (fun e : y = x => hl'.1 (e ▸ hy))).mpr ((h y).mp (.tail _ hy))
    · intro hy
      have hne : y ≠ x := fun e => by subst e; exact (hk.not_mem_erase) hy
      rcases List.mem_cons.mp ((h y).mpr (List.mem_of_mem_erase hy)) with e | hy
      · exact absurd e hne
      · exact hy
theorem Bfs.len (B : Bfs ps N i F) (hN : 0 ≤ N) : F.length ≤ (N + 1).toNat := by
  have := nodup_len B.nodup (k := rangeKs 0 (N + 1).toNat) fun x hx => mem_rangeKs_iff.mpr (by have := B.within x hx; omega)
  rwa [rangeKs_length] at this
theorem Bfs.perm (G : Graceful ps N) (B : Bfs ps N F.length F) : F.Perm (rangeKs 0 (N + 1).toNat) := by
  refine nodup_perm B.nodup (rangeKs_nodup _ _) fun x => ⟨fun hx => mem_rangeKs_iff.mpr (by have := B.within x hx; omega), fun hx => ?_⟩
  have hx' := mem_rangeKs_iff.mp hx
  refine G.conn (· ∈ F) B.zero (fun p hp => ?_) x hx'.1 (by omega)
  constructor
  · intro h
    obtain ⟨j, hj⟩ := List.mem_iff_getElem?.mp h
    exact (B.done j _ (List.getElem?_eq_some_iff.mp hj).1 hj p hp).1 rfl
  · intro h
    obtain ⟨j, hj⟩ := List.mem_iff_getElem?.mp h
    exact (B.done j _ (List.getElem?_eq_some_iff.mp hj).1 hj p hp).2 rfl
theorem theres_len (ps : List (Int × Int)) (F : List Int) (x : Int) : (theres ps F x).length ≤ 2 * ps.length := by
  induction ps with
  | nil => exact Nat.zero_le _
  | cons p r ih =>
    have hc : theres (p :: r) F x = ((if p.1 = x ∧ p.2 ∉ F then [p.2] else []) ++ (if p.2 = x ∧ p.1 ∉ F then [p.1] else [])) ++ theres r F x := rfl
    rw [hc, List.length_append, List.length_append, List.length_cons]
    have h1 : (if p.1 = x ∧ p.2 ∉ F then [p.2] else []).length ≤ 1 := by split <;> simp
    have h2 : (if p.2 = x ∧ p.1 ∉ F then [p.1] else []).length ≤ 1 := by split <;> simp
    omega
end
end Mine
end

section
open PySem PySem.Spec PySem.Calls PySem.W PyProof.Rows
set_option Elab.async false
set_option maxRecDepth 100000
namespace Mine

theorem rangeKs_succ (a : Int) (n : Nat) : rangeKs a (n + 1) = rangeKs a n ++ [a + (n : Int)] := by
  unfold rangeKs
  rw [List.range_succ, List.map_append]
  rfl

theorem ties_diffs : ∀ (l : List Int) (lo hi : Int), (l.length : Int) < hi - lo → ((tiesFrom lo hi l).map fun p => ((p.2 - p.1).natAbs : Int)).Perm (rangeKs (hi - lo - (l.length : Int)) (l.length + 1))
  | [], lo, hi, h => by
    have e : ((hi - lo).natAbs : Int) = hi - lo := by simp only [List.length_nil] at h; omega
    show [((hi - lo).natAbs : Int)].Perm _
    rw [e]
    have : rangeKs (hi - lo - (([] : List Int).length : Int)) (([] : List Int).length + 1) = [hi - lo] := by
      simp [rangeKs]
    rw [this]
  | n :: r, lo, hi, h => by
    have hl : ((n :: r).length : Int) = (r.length : Int) + 1 := by simp
    rw [hl] at h ⊢
    have e : ((hi - lo).natAbs : Int) = hi - lo := by omega
    have fin : ∀ t : List (Int × Int), (t.map fun p => ((p.2 - p.1).natAbs : Int)).Perm (rangeKs (hi - lo - 1 - (r.length : Int)) (r.length + 1)) → (((lo, hi) :: t).map fun p => ((p.2 - p.1).natAbs : Int)).Perm (rangeKs (hi - lo - ((r.length : Int) + 1)) ((n :: r).length + 1)) := by
      intro t ht
      rw [List.map_cons]
      show (((hi - lo).natAbs : Int) :: _).Perm _
      rw [e, List.length_cons, rangeKs_succ]
      have e2 : hi - lo - ((r.length : Int) + 1) = hi - lo - 1 - (r.length : Int) := by omega
      have e3 : hi - lo - 1 - (r.length : Int) + ((r.length + 1 : Nat) : Int) = hi - lo := by omega
      rw [e2, e3]
      exact (List.Perm.cons _ ht).trans (List.perm_append_singleton _ _).symm
    have i1 := ties_diffs r (lo + 1) hi (by omega)
    have i2 := ties_diffs r lo (hi - 1) (by omega)
    simp only [tiesFrom]
    split
    · refine fin _ ?_
      have e3 : hi - (lo + 1) - (r.length : Int) = hi - lo - 1 - (r.length : Int) := by omega
      rw [e3] at i1
      exact i1
    · refine fin _ ?_
      have e3 : hi - 1 - lo - (r.length : Int) = hi - lo - 1 - (r.length : Int) := by omega
      rw [e3] at i2
      exact i2

theorem end_gap : ∀ (l : List Int) (lo hi : Int), (endFrom lo hi l).2 - (endFrom lo hi l).1 = hi - lo - (l.length : Int)
  | [], lo, hi => by simp [endFrom]
  | n :: r, lo, hi => by
    have i1 := end_gap r (lo + 1) hi
    have i2 := end_gap r lo (hi - 1)
    have hl : ((n :: r).length : Int) = (r.length : Int) + 1 := by simp
    simp only [endFrom]
    split <;> omega
theorem end_low : ∀ (l : List Int) (lo hi : Int), lo ≤ (endFrom lo hi l).1 ∧ (endFrom lo hi l).2 ≤ hi
  | [], lo, hi => ⟨Int.le_refl _, Int.le_refl _⟩
  | n :: r, lo, hi => by
    have i1 := end_low r (lo + 1) hi
    have i2 := end_low r lo (hi - 1)
    simp only [endFrom]
    split
    · omega
    · omega
theorem ties_between : ∀ (l : List Int) (lo hi : Int), ∀ p ∈ tiesFrom lo hi l, lo ≤ p.1 ∧ p.1 ≤ (endFrom lo hi l).1 ∧ (endFrom lo hi l).2 ≤ p.2 ∧ p.2 ≤ hi
  | [], lo, hi, p, hp => by
    simp only [tiesFrom, List.mem_singleton] at hp
    subst hp
    simp [endFrom]
  | n :: r, lo, hi, p, hp => by
    have i1 := ties_between r (lo + 1) hi p
    have i2 := ties_between r lo (hi - 1) p
    have e1 := end_low r (lo + 1) hi
    have e2 := end_low r lo (hi - 1)
    simp only [tiesFrom] at hp
    simp only [endFrom]
    split
    · rename_i h
      rw [if_pos h] at hp
      rcases List.mem_cons.mp hp with rfl | hp
      · omega
      · have := i1 hp; omega
    · rename_i h
      rw [if_neg h] at hp
      rcases List.mem_cons.mp hp with rfl | hp
      · omega
      · have := i2 hp; omega
theorem ties_head (lo hi : Int) (l : List Int) : (lo, hi) ∈ tiesFrom lo hi l := by
  cases l with
  | nil => exact .head _
  | cons n r => simp only [tiesFrom]; exact .head _
theorem ties_conn (S : Int → Prop) : ∀ (l : List Int) (lo hi : Int), hi - lo = (l.length : Int) + 1 → S lo → (∀ p ∈ tiesFrom lo hi l, S p.1 ↔ S p.2) → ∀ k, lo ≤ k → k ≤ hi → S k
  | [], lo, hi, hd, h0, hS, k, h1, h2 => by
    have := hS (lo, hi) (ties_head _ _ _)
    simp only [List.length_nil] at hd
    by_cases e : k = lo
    · rw [e]; exact h0
    · have e : k = hi := by omega
      rw [e]; exact this.mp h0
  | n :: r, lo, hi, hd, h0, hS, k, h1, h2 => by
    have hl : ((n :: r).length : Int) = (r.length : Int) + 1 := by simp
    rw [hl] at hd
    have hh := (hS (lo, hi) (ties_head _ _ _)).mp h0
    simp only [tiesFrom] at hS
    by_cases h : n.fmod 2 = 0
    · rw [if_pos h] at hS
      have hS' := fun p hp => hS p (.tail _ hp)
      have h1' : S (lo + 1) := (hS' (lo + 1, hi) (ties_head _ _ _)).mpr hh
      by_cases e : k = lo
      · rw [e]; exact h0
      · exact ties_conn S r (lo + 1) hi (by omega) h1' hS' k (by omega) h2
    · rw [if_neg h] at hS
      have hS' := fun p hp => hS p (.tail _ hp)
      by_cases e : k = hi
      · rw [e]; exact hh
      · exact ties_conn S r lo (hi - 1) (by omega) h0 hS' k h1 (by omega)

theorem ties_graceful (l : List Int) (N : Int) (hN : N = (l.length : Int) + 1) : Graceful (tiesFrom 0 N l) N where
  diffs := by
    have h := ties_diffs l 0 N (by omega)
    have e1 : N - 0 - (l.length : Int) = 1 := by omega
    have e2 : N.toNat = l.length + 1 := by omega
    rw [e1] at h
    rw [e2]
    exact h
  within := fun p hp => by
    have h := ties_between l 0 N p hp
    have h2 := end_gap l 0 N
    omega
  conn := fun S h0 hS k h1 h2 => ties_conn S l 0 N (by omega) h0 hS k h1 h2

/-- told from above -/
theorem Graceful.flip {ps : List (Int × Int)} {N : Int} (G : Graceful ps N) (hN : 0 ≤ N) : Graceful (ps.map fun p => (N - p.1, N - p.2)) N where
  diffs := by
    have e : (ps.map fun p => (N - p.1, N - p.2)).map (fun p => ((p.2 - p.1).natAbs : Int)) = ps.map fun p => ((p.2 - p.1).natAbs : Int) := by
      rw [List.map_map]
      refine List.map_congr_left fun p _ => ?_
      show (((N - p.2) - (N - p.1)).natAbs : Int) = ((p.2 - p.1).natAbs : Int)
      omega
    rw [e]
    exact G.diffs
  within := fun p hp => by
    obtain ⟨q, hq, rfl⟩ := List.mem_map.mp hp
    have h := G.within q hq
    dsimp only
    omega
  conn := fun S h0 hS => by
    have key := G.conn (fun k => S (N - k) ↔ S N) (by rw [Int.sub_zero]) (fun p hp => by
      have := hS (N - p.1, N - p.2) (List.mem_map.mpr ⟨p, hp, rfl⟩)
      dsimp only at this
      rw [this])
    have hSN : S N := by
      have := (key N hN (Int.le_refl _)).mp
      rw [Int.sub_self] at this
      exact this h0
    intro k h1 h2
    have := (key (N - k) (by omega) (by omega)).mpr hSN
    rwa [show N - (N - k) = k by omega] at this

theorem theres_count : ∀ (ps : List (Int × Int)) (x : Int), (∀ p ∈ ps, p.1 ≠ p.2) → (theres ps [] x).length = (ps.filter fun p => decide (p.1 = x ∨ p.2 = x)).length
  | [], _, _ => rfl
  | p :: r, x, h => by
    have ih := theres_count r x fun q hq => h q (.tail _ hq)
    have hne := h p (.head _)
    have hc : theres (p :: r) [] x = ((if p.1 = x ∧ p.2 ∉ ([] : List Int) then [p.2] else []) ++ (if p.2 = x ∧ p.1 ∉ ([] : List Int) then [p.1] else [])) ++ theres r [] x := rfl
    rw [hc, List.length_append, List.length_append, List.filter_cons]
    simp only [List.not_mem_nil, not_false_eq_true, and_true, decide_eq_true_eq]
    by_cases h1 : p.1 = x
    · have h2 : ¬ p.2 = x := fun e => hne (h1.trans e.symm)
      simp only [h1, h2, if_true, if_false, true_or]
      simp only [List.length_cons, List.length_nil, ih]
      omega
    · by_cases h2 : p.2 = x
      · simp only [h1, h2, if_true, if_false, or_true]
        simp only [List.length_cons, List.length_nil, ih]
        omega
      · simp only [h1, h2, if_false, or_self]
        simp [ih]

theorem sum_one : ∀ (n : Nat) (a : Int), 0 ≤ a → a < (n : Int) → ((rangeKs 0 n).map fun x => if a = x then (1 : Int) else 0).sum = 1
  | 0, a, h1, h2 => by omega
  | n + 1, a, h1, h2 => by
    rw [rangeKs_succ, List.map_append, List.sum_append]
    by_cases e : a = (n : Int)
    · have z : ((rangeKs 0 n).map fun x => if a = x then (1 : Int) else 0) = (rangeKs 0 n).map fun _ => 0 := by
        refine List.map_congr_left fun x hx => ?_
        have := mem_rangeKs_iff.mp hx
        rw [if_neg (by omega)]
      have z2 : ∀ l : List Int, (l.map fun _ => (0 : Int)).sum = 0 := by
        intro l
        induction l with
        | nil => rfl
        | cons _ _ ih => simp [ih]
      rw [z, z2]
      simp [e]
    · rw [sum_one n a h1 (by omega)]
      have : ¬ a = 0 + (n : Int) := by omega
      simp [e]

theorem sum_add (f g : Int → Int) : ∀ l : List Int, (l.map fun x => f x + g x).sum = (l.map f).sum + (l.map g).sum
  | [] => rfl
  | x :: r => by simp only [List.map_cons, List.sum_cons, sum_add f g r]; omega

theorem theres_sum : ∀ (ps : List (Int × Int)) (N : Int), (∀ p ∈ ps, 0 ≤ p.1 ∧ p.1 ≤ N ∧ 0 ≤ p.2 ∧ p.2 ≤ N) → ((rangeKs 0 (N + 1).toNat).map fun x => ((theres ps [] x).length : Int)).sum = 2 * (ps.length : Int)
  | [], N, _ => by
    have z2 : ∀ l : List Int, (l.map fun _ => (0 : Int)).sum = 0 := by
      intro l
      induction l with
      | nil => rfl
      | cons _ _ ih => simp [ih]
    exact z2 _
  | p :: r, N, h => by
    have ih := theres_sum r N fun q hq => h q (.tail _ hq)
    have hp := h p (.head _)
    have e : ((rangeKs 0 (N + 1).toNat).map fun x => ((theres (p :: r) [] x).length : Int)) = (rangeKs 0 (N + 1).toNat).map fun x => ((if p.1 = x then (1 : Int) else 0) + (if p.2 = x then (1 : Int) else 0)) + ((theres r [] x).length : Int) := by
      refine List.map_congr_left fun x _ => ?_
      have hc : theres (p :: r) [] x = ((if p.1 = x ∧ p.2 ∉ ([] : List Int) then [p.2] else []) ++ (if p.2 = x ∧ p.1 ∉ ([] : List Int) then [p.1] else [])) ++ theres r [] x := rfl
      rw [hc, List.length_append, List.length_append]
      simp only [List.not_mem_nil, not_false_eq_true, and_true]
      split <;> split <;> simp <;> omega
    rw [e, sum_add, sum_add, ih, sum_one _ _ hp.1 (by omega), sum_one _ _ hp.2.2.1 (by omega), List.length_cons]
    omega

theorem counts_eq (ps : List (Int × Int)) (n : Nat) (h : ∀ p ∈ ps, p.1 ≠ p.2) : List.map (fun x => ((theres ps [] x).length : Int)) (rangeKs 0 n) = List.map (fun j => ((List.filter (fun p => decide (p.1 = ((j : Nat) : Int) ∨ p.2 = ((j : Nat) : Int))) ps).length : Int)) (List.range n) := by
  unfold rangeKs
  rw [List.map_map]
  refine List.map_congr_left fun j _ => ?_
  show ((theres ps [] (0 + (j : Int))).length : Int) = _
  rw [Int.zero_add, theres_count ps _ h]
end Mine
end

section
open PySem PySem.Spec PySem.Calls PySem.W PyProof.Rows
set_option Elab.async false
set_option maxRecDepth 100000
namespace Mine
def c1 (L : List (Int × Int)) (x : Int) : Nat := (L.filter fun p => decide (p.1 = x)).length
def c2 (L : List (Int × Int)) (x : Int) : Nat := (L.filter fun p => decide (p.2 = x)).length
theorem filter_le {α : Type} {f g : α → Bool} : ∀ {l : List α}, (∀ p ∈ l, f p = true → g p = true) → (l.filter f).length ≤ (l.filter g).length
  | [], _ => Nat.le_refl _
  | p :: r, h => by
    have ih := filter_le (l := r) fun q hq => h q (.tail _ hq)
    have hp := h p (.head _)
    rw [List.filter_cons, List.filter_cons]
    by_cases e : f p = true
    · rw [if_pos e, if_pos (hp e)]; simp only [List.length_cons]; omega
    · rw [if_neg e]
      split
      · simp only [List.length_cons]; omega
      · exact ih
theorem filter_none {α : Type} {f : α → Bool} {l : List α} (h : ∀ p ∈ l, ¬ f p = true) : l.filter f = [] := by
  rw [List.filter_eq_nil_iff]; exact h
theorem ties_lo {l : List Int} {lo hi : Int} {p : Int × Int} (hp : p ∈ tiesFrom lo hi l) : lo ≤ p.1 ∧ p.2 ≤ hi := by
  have := ties_between l lo hi p hp
  omega

theorem blk_lo : ∀ (l : List Int) (lo hi : Int) (pre : List (Int × Int)), (∀ q ∈ pre, hi < q.2) → ((tiesFrom lo hi l).filter fun p => decide (p.1 = lo ∧ 1 < c2 (pre ++ tiesFrom lo hi l) p.2)).length ≤ 1
  | [], lo, hi, pre, _ => Nat.le_trans (List.length_filter_le _ _) (by simp [tiesFrom])
  | n :: r, lo, hi, pre, h => by
    by_cases hn : n.fmod 2 = 0
    · simp only [tiesFrom, if_pos hn, List.filter_cons]
      have e : (tiesFrom (lo + 1) hi r).filter (fun p => decide (p.1 = lo ∧ 1 < c2 (pre ++ (lo, hi) :: tiesFrom (lo + 1) hi r) p.2)) = [] := filter_none fun p hp => by
        have := (ties_lo hp).1
        simp only [decide_eq_true_eq]
        omega
      rw [e]
      split <;> simp
    · simp only [tiesFrom, if_neg hn, List.filter_cons]
      have ih := blk_lo r lo (hi - 1) (pre ++ [(lo, hi)]) (fun q hq => by
        rcases List.mem_append.mp hq with hq | hq
        · have := h q hq; omega
        · rw [List.mem_singleton.mp hq]; show hi - 1 < hi; omega)
      rw [List.append_assoc] at ih
      have e : c2 (pre ++ (lo, hi) :: tiesFrom lo (hi - 1) r) hi = 1 := by
        unfold c2
        rw [List.filter_append, List.filter_cons, filter_none (l := pre), filter_none (l := tiesFrom lo (hi - 1) r)]
        · simp
        · intro p hp
          have := (ties_lo hp).2
          simp only [decide_eq_true_eq]; omega
        · intro p hp
          have := h p hp
          simp only [decide_eq_true_eq]; omega
      rw [if_neg (by simp only [decide_eq_true_eq, e]; omega)]
      exact ih
theorem blk_any : ∀ (l : List Int) (lo hi : Int) (pre : List (Int × Int)) (x : Int), (∀ q ∈ pre, hi ≤ q.2) → ((tiesFrom lo hi l).filter fun p => decide (p.1 = x ∧ 1 < c2 (pre ++ tiesFrom lo hi l) p.2)).length ≤ 2
  | [], lo, hi, pre, x, _ => Nat.le_trans (List.length_filter_le _ _) (by simp [tiesFrom])
  | n :: r, lo, hi, pre, x, h => by
    by_cases hx : x = lo
    · subst hx
      by_cases hn : n.fmod 2 = 0
      · simp only [tiesFrom, if_pos hn, List.filter_cons]
        have e : (tiesFrom (x + 1) hi r).filter (fun p => decide (p.1 = x ∧ 1 < c2 (pre ++ (x, hi) :: tiesFrom (x + 1) hi r) p.2)) = [] := filter_none fun p hp => by
          have := (ties_lo hp).1
          simp only [decide_eq_true_eq]
          omega
        rw [e]
        split <;> simp
      · simp only [tiesFrom, if_neg hn, List.filter_cons]
        have ih := blk_lo r x (hi - 1) (pre ++ [(x, hi)]) (fun q hq => by
          rcases List.mem_append.mp hq with hq | hq
          · have := h q hq; omega
          · rw [List.mem_singleton.mp hq]; show hi - 1 < hi; omega)
        rw [List.append_assoc] at ih
        simp only [List.singleton_append] at ih
        split
        · simp only [List.length_cons]; omega
        · omega
    · have hh : ∀ t, (if decide (lo = x ∧ 1 < c2 (pre ++ (lo, hi) :: t) hi) = true then (lo, hi) :: t.filter (fun p => decide (p.1 = x ∧ 1 < c2 (pre ++ (lo, hi) :: t) p.2)) else t.filter (fun p => decide (p.1 = x ∧ 1 < c2 (pre ++ (lo, hi) :: t) p.2))) = t.filter (fun p => decide (p.1 = x ∧ 1 < c2 (pre ++ (lo, hi) :: t) p.2)) := fun t => by
        rw [if_neg]
        simp only [decide_eq_true_eq]
        intro e; exact hx e.1.symm
      by_cases hn : n.fmod 2 = 0
      · simp only [tiesFrom, if_pos hn, List.filter_cons]
        rw [hh]
        have ih := blk_any r (lo + 1) hi (pre ++ [(lo, hi)]) x (fun q hq => by
          rcases List.mem_append.mp hq with hq | hq
          · exact h q hq
          · rw [List.mem_singleton.mp hq]; exact Int.le_refl _)
        rw [List.append_assoc] at ih
        exact ih
      · simp only [tiesFrom, if_neg hn, List.filter_cons]
        rw [hh]
        have ih := blk_any r lo (hi - 1) (pre ++ [(lo, hi)]) x (fun q hq => by
          rcases List.mem_append.mp hq with hq | hq
          · have := h q hq; omega
          · rw [List.mem_singleton.mp hq]; show hi - 1 ≤ hi; omega)
        rw [List.append_assoc] at ih
        exact ih

theorem bhk_hi : ∀ (l : List Int) (lo hi : Int) (pre : List (Int × Int)), (∀ q ∈ pre, q.1 < lo) → ((tiesFrom lo hi l).filter fun p => decide (p.2 = hi ∧ 1 < c1 (pre ++ tiesFrom lo hi l) p.1)).length ≤ 1
  | [], lo, hi, pre, _ => Nat.le_trans (List.length_filter_le _ _) (by simp [tiesFrom])
  | n :: r, lo, hi, pre, h => by
    by_cases hn : n.fmod 2 = 0
    · simp only [tiesFrom, if_pos hn, List.filter_cons]
      have ih := bhk_hi r (lo + 1) hi (pre ++ [(lo, hi)]) (fun q hq => by
        rcases List.mem_append.mp hq with hq | hq
        · have := h q hq; omega
        · rw [List.mem_singleton.mp hq]; show lo < lo + 1; omega)
      rw [List.append_assoc] at ih
      have e : c1 (pre ++ (lo, hi) :: tiesFrom (lo + 1) hi r) lo = 1 := by
        unfold c1
        rw [List.filter_append, List.filter_cons, filter_none (l := pre), filter_none (l := tiesFrom (lo + 1) hi r)]
        · simp
        · intro p hp
          have := (ties_lo hp).1
          simp only [decide_eq_true_eq]; omega
        · intro p hp
          have := h p hp
          simp only [decide_eq_true_eq]; omega
      rw [if_neg (by simp only [decide_eq_true_eq, e]; omega)]
      exact ih
    · simp only [tiesFrom, if_neg hn, List.filter_cons]
      have e : (tiesFrom lo (hi - 1) r).filter (fun p => decide (p.2 = hi ∧ 1 < c1 (pre ++ (lo, hi) :: tiesFrom lo (hi - 1) r) p.1)) = [] := filter_none fun p hp => by
        have := (ties_lo hp).2
        simp only [decide_eq_true_eq]
        omega
      rw [e]
      split <;> simp
theorem bhk_any : ∀ (l : List Int) (lo hi : Int) (pre : List (Int × Int)) (x : Int), (∀ q ∈ pre, q.1 ≤ lo) → ((tiesFrom lo hi l).filter fun p => decide (p.2 = x ∧ 1 < c1 (pre ++ tiesFrom lo hi l) p.1)).length ≤ 2
  | [], lo, hi, pre, x, _ => Nat.le_trans (List.length_filter_le _ _) (by simp [tiesFrom])
  | n :: r, lo, hi, pre, x, h => by
    by_cases hx : x = hi
    · subst hx
      by_cases hn : n.fmod 2 = 0
      · simp only [tiesFrom, if_pos hn, List.filter_cons]
        have ih := bhk_hi r (lo + 1) x (pre ++ [(lo, x)]) (fun q hq => by
          rcases List.mem_append.mp hq with hq | hq
          · have := h q hq; omega
          · rw [List.mem_singleton.mp hq]; show lo < lo + 1; omega)
        rw [List.append_assoc] at ih
        simp only [List.singleton_append] at ih
        split
        · simp only [List.length_cons]; omega
        · omega
      · simp only [tiesFrom, if_neg hn, List.filter_cons]
        have e : (tiesFrom lo (x - 1) r).filter (fun p => decide (p.2 = x ∧ 1 < c1 (pre ++ (lo, x) :: tiesFrom lo (x - 1) r) p.1)) = [] := filter_none fun p hp => by
          have := (ties_lo hp).2
          simp only [decide_eq_true_eq]
          omega
        rw [e]
        split <;> simp
    · have hh : ∀ t, (if decide (hi = x ∧ 1 < c1 (pre ++ (lo, hi) :: t) lo) = true then (lo, hi) :: t.filter (fun p => decide (p.2 = x ∧ 1 < c1 (pre ++ (lo, hi) :: t) p.1)) else t.filter (fun p => decide (p.2 = x ∧ 1 < c1 (pre ++ (lo, hi) :: t) p.1))) = t.filter (fun p => decide (p.2 = x ∧ 1 < c1 (pre ++ (lo, hi) :: t) p.1)) := fun t => by
        rw [if_neg]
        simp only [decide_eq_true_eq]
        intro e; exact hx e.1.symm
      by_cases hn : n.fmod 2 = 0
      · simp only [tiesFrom, if_pos hn, List.filter_cons]
        rw [hh]
        have ih := bhk_any r (lo + 1) hi (pre ++ [(lo, hi)]) x (fun q hq => by
          rcases List.mem_append.mp hq with hq | hq
          · have := h q hq; omega
          · rw [List.mem_singleton.mp hq]; show lo ≤ lo + 1; omega)
        rw [List.append_assoc] at ih
        exact ih
      · simp only [tiesFrom, if_neg hn, List.filter_cons]
        rw [hh]
        have ih := bhk_any r lo (hi - 1) (pre ++ [(lo, hi)]) x (fun q hq => by
          rcases List.mem_append.mp hq with hq | hq
          · exact h q hq
          · rw [List.mem_singleton.mp hq]; exact Int.le_refl _)
        rw [List.append_assoc] at ih
        exact ih

/-- with the places of one tie alone left out, a line is left -/
theorem inner_line (l : List Int) (N : Int) (hN : N = (l.length : Int) + 1) (ps qs : List (Int × Int)) (hps : ps = tiesFrom 0 N l) (hqs : qs = ps.filter fun p => decide (1 < (theres ps [] p.1).length ∧ 1 < (theres ps [] p.2).length)) (x : Int) : (theres qs [] x).length ≤ 2 := by
  have hb : ∀ p ∈ ps, p.1 ≤ (endFrom 0 N l).1 ∧ (endFrom 0 N l).1 + 1 ≤ p.2 := fun p hp => by
    have h1 := ties_between l 0 N p (by rw [← hps]; exact hp)
    have h2 := end_gap l 0 N
    omega
  generalize (endFrom 0 N l).1 = mid at hb
  have hne : ∀ p ∈ ps, p.1 ≠ p.2 := fun p hp => by have := hb p hp; omega
  have hneq : ∀ p ∈ qs, p.1 ≠ p.2 := fun p hp => hne p (by rw [hqs] at hp; exact (List.mem_filter.mp hp).1)
  rw [theres_count qs x hneq, hqs, List.filter_filter]
  by_cases hx : x ≤ mid
  · have h := blk_any l 0 N [] x (fun q hq => nomatch hq)
    rw [List.nil_append, ← hps] at h
    refine Nat.le_trans (filter_le fun p hp => ?_) h
    simp only [Bool.and_eq_true, decide_eq_true_eq]
    rintro ⟨h1, h2, h3⟩
    have hp' := hb p hp
    refine ⟨by omega, ?_⟩
    rw [theres_count ps _ hne] at h3
    refine Nat.lt_of_lt_of_le h3 (filter_le fun q hq => ?_)
    simp only [decide_eq_true_eq]
    have := hb q hq
    omega
  · have h := bhk_any l 0 N [] x (fun q hq => nomatch hq)
    rw [List.nil_append, ← hps] at h
    refine Nat.le_trans (filter_le fun p hp => ?_) h
    simp only [Bool.and_eq_true, decide_eq_true_eq]
    rintro ⟨h1, h2, h3⟩
    have hp' := hb p hp
    refine ⟨by omega, ?_⟩
    rw [theres_count ps _ hne] at h2
    refine Nat.lt_of_lt_of_le h2 (filter_le fun q hq => ?_)
    simp only [decide_eq_true_eq]
    have := hb q hq
    omega
end Mine
end

section
open PySem PySem.Spec PySem.Calls PySem.W PyProof.Rows
set_option Elab.async false
set_option maxRecDepth 100000
namespace Mine
/-- one pair before another -/
def ltP (a b : Int × Int) : Prop := a.1 < b.1 ∨ (a.1 = b.1 ∧ a.2 < b.2)
theorem ltP.trans {a b c : Int × Int} (h : ltP a b) (k : ltP b c) : ltP a c := by unfold ltP at *; omega
theorem ltP.irrefl {a : Int × Int} (h : ltP a a) : False := by unfold ltP at h; omega
theorem ltP.total {a b : Int × Int} (h : ¬ ltP a b) (hne : a ≠ b) : ltP b a := by
  unfold ltP at *
  obtain ⟨a1, a2⟩ := a
  obtain ⟨b1, b2⟩ := b
  have : ¬ (a1 = b1 ∧ a2 = b2) := fun e => hne (by rw [e.1, e.2])
  dsimp only at *
  omega

theorem PairsAt.mem {led : List (Addr × Obj)} {vs : List Value} {ps : List (Int × Int)} (h : PairsAt led vs ps) : ∀ z ∈ vs.zip ps, ∃ a t u, z.1 = .ref a ∧ (a, tup2 z.2.1 t z.2.2 u) ∈ led := by
  induction h with
  | nil => intro z hz; simp at hz
  | @cons a x y t u vs ps hm _ ih =>
    intro z hz
    rw [List.zip_cons_cons] at hz
    rcases List.mem_cons.mp hz with rfl | hz
    · exact ⟨a, t, u, rfl, hm⟩
    · exact ih z hz
theorem PairsAt.sub {led : List (Addr × Obj)} {vs : List Value} {ps : List (Int × Int)} (h : PairsAt led vs ps) : ∀ {zs : List (Value × (Int × Int))}, (∀ z ∈ zs, z ∈ vs.zip ps) → PairsAt led (zs.map (·.1)) (zs.map (·.2))
  | [], _ => .nil
  | (v, (x, y)) :: r, hz => by
    obtain ⟨a, t, u, e, hm⟩ := h.mem _ (hz _ (.head _))
    have e : v = .ref a := e
    subst e
    exact .cons hm (h.sub fun z hz' => hz z (.tail _ hz'))
theorem ins_step {zs : List (Value × (Int × Int))} {z : Value × (Int × Int)} (hs : zs.Pairwise fun a b => ltP a.2 b.2) (hz : ∀ y ∈ zs, y.2 ≠ z.2) {j : Nat}
    (h1 : ∀ (i : Nat) (a : Value × (Int × Int)), i < j → zs[i]? = some a → ltP a.2 z.2) (h2 : ∀ (i : Nat) (a : Value × (Int × Int)), j ≤ i → zs[i]? = some a → ¬ ltP a.2 z.2) :
    (zs.take j ++ z :: zs.drop j).Pairwise (fun a b => ltP a.2 b.2) ∧ (zs.take j ++ z :: zs.drop j).Perm (z :: zs) := by
  constructor
  · have hsp : (zs.take j ++ zs.drop j).Pairwise fun a b => ltP a.2 b.2 := by rw [List.take_append_drop]; exact hs
    rw [List.pairwise_append] at hsp ⊢
    have hA : ∀ a ∈ zs.take j, ltP a.2 z.2 := fun a ha => by
      obtain ⟨i, hi⟩ := List.mem_iff_getElem?.mp ha
      rw [List.getElem?_take] at hi
      split at hi
      · rename_i hij; exact h1 i a hij hi
      · cases hi
    have hB : ∀ b ∈ zs.drop j, ltP z.2 b.2 := fun b hb => by
      obtain ⟨i, hi⟩ := List.mem_iff_getElem?.mp hb
      rw [List.getElem?_drop] at hi
      exact ltP.total (h2 (j + i) b (by omega) hi) (hz b (List.mem_of_mem_drop hb))
    refine ⟨hsp.1, List.pairwise_cons.mpr ⟨hB, hsp.2.1⟩, ?_⟩
    intro a ha b hb
    rcases List.mem_cons.mp hb with rfl | hb
    · exact hA a ha
    · exact hsp.2.2 a ha b hb
  · refine List.perm_middle.trans (List.Perm.cons _ ?_)
    rw [List.take_append_drop]
theorem perm_sorted {α : Type} {R : α → α → Prop} (hR : ∀ a b, R a b → R b a → False) : ∀ {a b : List α}, a.Perm b → a.Pairwise R → b.Pairwise R → a = b
  | [], b, p, _, _ => (List.Perm.nil_eq p)
  | x :: r, [], p, _, _ => absurd p.length_eq (by simp)
  | x :: r, y :: t, p, ha, hb => by
    have hx := List.pairwise_cons.mp ha
    have hy := List.pairwise_cons.mp hb
    have e : x = y := by
      have h1 : y ∈ x :: r := p.mem_iff.mpr (.head _)
      have h2 : x ∈ y :: t := p.mem_iff.mp (.head _)
      rcases List.mem_cons.mp h1 with h | h
      · exact h.symm
      · rcases List.mem_cons.mp h2 with h' | h'
        · exact h'
        · exact (hR _ _ (hx.1 _ h) (hy.1 _ h')).elim
    subst e
    rw [perm_sorted hR (List.Perm.cons_inv p) hx.2 hy.2]
/-- the pairs differ -/
theorem Graceful.pairs_nodup {ps : List (Int × Int)} {N : Int} (G : Graceful ps N) : ps.Nodup := by
  have h := G.nodup
  rw [List.nodup_iff_pairwise_ne, List.pairwise_map] at h
  rw [List.nodup_iff_pairwise_ne]
  exact h.imp fun hab e => hab (by rw [e])
/-- where a sorted list holds what is below x -/
theorem count_below {ls : List Int} {x : Int} {j : Nat} (hj : j ≤ ls.length) (h1 : ∀ i, i < j → ∀ a, ls[i]? = some a → a < x) (h2 : ∀ i, j ≤ i → ∀ a, ls[i]? = some a → ¬ a < x) : (ls.filter fun a => decide (a < x)).length = j := by
  have e : ls = ls.take j ++ ls.drop j := (List.take_append_drop _ _).symm
  rw [e, List.filter_append, List.filter_eq_self.mpr, List.filter_eq_nil_iff.mpr, List.append_nil, List.length_take]
  · omega
  · intro a ha
    obtain ⟨i, hi⟩ := List.mem_iff_getElem?.mp ha
    rw [List.getElem?_drop] at hi
    simpa using h2 (j + i) (by omega) a hi
  · intro a ha
    obtain ⟨i, hi⟩ := List.mem_iff_getElem?.mp ha
    rw [List.getElem?_take] at hi
    split at hi
    · rename_i hij
      simpa using h1 i hij a hi
    · cases hi
theorem nodup_rev {α : Type} {l : List α} (h : l.Nodup) : l.reverse.Nodup := (List.reverse_perm l).nodup_iff.mpr h
theorem rev_zip {vs : List Value} {ps : List (Int × Int)} (h : vs.length = ps.length) {i : Nat} {v : Value} (hv : vs.reverse[i]? = some v) : ∃ q, (vs.zip ps).reverse[i]? = some (v, q) := by
  have e : (vs.zip ps).reverse.map (·.1) = vs.reverse := by
    rw [List.map_reverse]
    congr 1
    exact List.map_fst_zip (Nat.le_of_eq h)
  rw [← e, List.getElem?_map] at hv
  cases hz : (vs.zip ps).reverse[i]? with
  | none => rw [hz] at hv; cases hv
  | some z =>
    rw [hz] at hv
    obtain ⟨a, q⟩ := z
    have : a = v := Option.some.inj hv
    exact ⟨q, by rw [this]⟩
theorem take_new {Z zs : List (Value × (Int × Int))} (hnd : (Z.map (·.2)).Nodup) {i : Nat} {z : Value × (Int × Int)} (hz : Z[i]? = some z) (hp : zs.Perm (Z.take i)) : ∀ y ∈ zs, y.2 ≠ z.2 := by
  intro y hy e
  have hsub : ((Z.take (i + 1)).map (·.2)).Nodup := List.Nodup.sublist (List.Sublist.map _ (List.take_sublist _ _)) hnd
  rw [List.take_add_one, hz, List.map_append] at hsub
  have h := (List.nodup_append.mp hsub).2.2
  exact h _ (List.mem_map.mpr ⟨y, hp.mem_iff.mp hy, rfl⟩) z.2 (by simp) e
theorem pairs_mono {zs : List (Value × (Int × Int))} (hs : zs.Pairwise fun a b => ltP a.2 b.2) {q : Int × Int} {i j : Nat} {a b : Int × Int} (hij : i ≤ j) (ha : (zs.map (·.2))[i]? = some a) (hb : (zs.map (·.2))[j]? = some b) (h : ltP b q) : ltP a q := by
  have hs' : (zs.map (·.2)).Pairwise ltP := by rw [List.pairwise_map]; exact hs
  by_cases e : i = j
  · subst e
    rw [ha] at hb
    cases hb
    exact h
  · obtain ⟨hi, rfl⟩ := List.getElem?_eq_some_iff.mp ha
    obtain ⟨hj, rfl⟩ := List.getElem?_eq_some_iff.mp hb
    exact (List.pairwise_iff_getElem.mp hs' i j hi hj (by omega)).trans h
/-- a turn of the sorting, said of values with their pairs -/
theorem ins_turn {Z zs : List (Value × (Int × Int))} (hnd : (Z.map (·.2)).Nodup) {i : Nat} {z : Value × (Int × Int)} (hz : Z[i]? = some z) (hp : zs.Perm (Z.take i)) (hs : zs.Pairwise fun a b => ltP a.2 b.2) {j : Nat}
    (h1 : ∀ (i : Nat) (a : Int × Int), i < j → (zs.map (·.2))[i]? = some a → ltP a z.2) (h2 : ∀ (i : Nat) (a : Int × Int), j ≤ i → (zs.map (·.2))[i]? = some a → ¬ ltP a z.2) :
    ∃ zs' : List (Value × (Int × Int)), (zs.map (·.1)).take j ++ z.1 :: (zs.map (·.1)).drop j = zs'.map (·.1) ∧ zs'.Perm (Z.take (i + 1)) ∧ zs'.Pairwise fun a b => ltP a.2 b.2 := by
  have h := ins_step (j := j) (z := z) hs (take_new hnd hz hp) (fun i a hi ha => h1 i a.2 hi (by rw [List.getElem?_map, ha]; rfl)) (fun i a hi ha => h2 i a.2 hi (by rw [List.getElem?_map, ha]; rfl))
  refine ⟨zs.take j ++ z :: zs.drop j, by simp [List.map_take, List.map_drop], ?_, h.1⟩
  rw [List.take_add_one, hz]
  exact h.2.trans ((List.Perm.cons _ hp).trans (List.perm_append_singleton _ _).symm)
end Mine
end

section
open PySem PySem.Spec PySem.Calls PySem.W PyProof.Rows
set_option Elab.async false
set_option maxRecDepth 100000
namespace Mine
/-- a sort's tree, walked with one answer to each question -/
def Wk (n : Nat) (lt : Nat → Nat → Bool) {α : Type} : KasT α → (α → Prop) → Prop
  | .ret a, Q => Q a
  | .ask i j k, Q => i < n ∧ j < n ∧ Wk n lt (k (lt i j)) Q
theorem Wk.bind {n : Nat} {lt : Nat → Nat → Bool} {α β : Type} {f : α → KasT β} {Q : β → Prop} : ∀ {t : KasT α}, Wk n lt t (fun a => Wk n lt (f a) Q) → Wk n lt (t.bind f) Q
  | .ret _, h => h
  | .ask _ _ _, h => ⟨h.1, h.2.1, Wk.bind h.2.2⟩
theorem Wk.wp {n : Nat} {lt : Nat → Nat → Bool} {α : Type} {cmp : Nat → Nat → (Bool → Shared → Prop) → Shared → Prop} {Q : α → Shared → Prop} {s : Shared} (hc : ∀ i j C, i < n → j < n → C (lt i j) s → cmp i j C s) : ∀ {t : KasT α}, Wk n lt t (fun a => Q a s) → t.kasWp cmp Q s
  | .ret _, h => h
  | .ask _ _ _, h => hc _ _ _ h.1 h.2.1 (Wk.wp hc h.2.2)

theorem Wk.yes {n : Nat} {key : Nat → Int} {α : Type} {i j : Nat} {k : Bool → KasT α} {Q : α → Prop} (hi : i < n) (hj : j < n) (c : key i < key j) (h : Wk n (fun i j => decide (key i < key j)) (k true) Q) : Wk n (fun i j => decide (key i < key j)) (.ask i j k) Q := by
  refine ⟨hi, hj, ?_⟩
  dsimp only
  rw [decide_eq_true c]
  exact h
theorem Wk.no {n : Nat} {key : Nat → Int} {α : Type} {i j : Nat} {k : Bool → KasT α} {Q : α → Prop} (hi : i < n) (hj : j < n) (c : ¬ key i < key j) (h : Wk n (fun i j => decide (key i < key j)) (k false) Q) : Wk n (fun i j => decide (key i < key j)) (.ask i j k) Q := by
  refine ⟨hi, hj, ?_⟩
  dsimp only
  rw [decide_eq_false c]
  exact h
section
variable {n : Nat} {key : Nat → Int}
def KP (key : Nat → Int) (p : Array Nat) (i : Nat) : Int := key (p.getD i 0)
structure Good (n : Nat) (key : Nat → Int) (p : Array Nat) : Prop where
  perm : p.toList.Perm (List.range n)
def IncP (key : Nat → Int) (p : Array Nat) (m : Nat) : Prop := ∀ i j, i < j → j < m → KP key p i < KP key p j
def DecP (key : Nat → Int) (p : Array Nat) (m : Nat) : Prop := ∀ i j, i < j → j < m → KP key p j < KP key p i

theorem Good.size {p : Array Nat} (G : Good n key p) : p.size = n := by
  have := G.perm.length_eq
  rwa [Array.length_toList, List.length_range] at this
theorem Good.at {p : Array Nat} (G : Good n key p) {i : Nat} (hi : i < n) : p.getD i 0 < n := by
  have hs := G.size
  have e : p.getD i 0 = p.toList[i]'(by rw [Array.length_toList]; omega) := by
    simp [Array.getD, show i < p.size by omega]
  rw [e]
  exact List.mem_range.mp (G.perm.mem_iff.mp (List.getElem_mem _))
theorem Good.ne {p : Array Nat} (G : Good n key p) (hk : ∀ i j, i < n → j < n → key i = key j → i = j) {i j : Nat} (hi : i < n) (hj : j < n) (hij : i ≠ j) : KP key p i ≠ KP key p j := by
  intro e
  have hs := G.size
  have e1 := hk _ _ (G.at hi) (G.at hj) e
  have hnd : p.toList.Nodup := G.perm.nodup_iff.mpr List.nodup_range
  have hi' : i < p.toList.length := by rw [Array.length_toList]; omega
  have hj' : j < p.toList.length := by rw [Array.length_toList]; omega
  have ei : p.getD i 0 = p.toList[i]'hi' := by simp [Array.getD, show i < p.size by omega]
  have ej : p.getD j 0 = p.toList[j]'hj' := by simp [Array.getD, show j < p.size by omega]
  rw [ei, ej] at e1
  have hp := List.pairwise_iff_getElem.mp (List.nodup_iff_pairwise_ne.mp hnd)
  rcases Nat.lt_or_gt_of_ne hij with h | h
  · exact hp i j hi' hj' h e1
  · exact hp j i hj' hi' h e1.symm
theorem Good.rev {p : Array Nat} (G : Good n key p) (i j : Nat) : Good n key (kas_rev p i j) :=
  ⟨(Array.perm_iff_toList_perm.mp (mirror_perm p i j _)).trans G.perm⟩
theorem Good.bub {p : Array Nat} (G : Good n key p) (i j : Nat) : Good n key (bubble p i j) :=
  ⟨(Array.perm_iff_toList_perm.mp (bubble_perm p i j)).trans G.perm⟩
theorem KP_rev {p : Array Nat} {m i : Nat} (hm : m ≤ p.size) (hi : i < m) : KP key (kas_rev p 0 m) i = KP key p (m - 1 - i) := by
  unfold KP kas_rev
  rw [Array.getD_eq_getD_getElem?, Array.getD_eq_getD_getElem?, getElem?_mirror_all hm, if_pos ⟨Nat.zero_le _, hi⟩, Nat.zero_add]
theorem KP_bub {p : Array Nat} {k d : Nat} (hk : k < p.size) (hd : d ≤ k) (i : Nat) : KP key (bubble p k d) i = if i = k - d then KP key p k else if k - d < i ∧ i ≤ k then KP key p (i - 1) else KP key p i := by
  unfold KP
  simp only [Array.getD_eq_getD_getElem?, getElem?_bubble hk d hd]
  repeat' split
  all_goals rfl
theorem IncP.snoc {p : Array Nat} {m : Nat} (h : IncP key p m) (hm : 1 ≤ m) (hl : KP key p (m - 1) < KP key p m) : IncP key p (m + 1) := by
  intro i j hij hj
  by_cases e : j = m
  · subst e
    by_cases e2 : i = j - 1
    · subst e2; exact hl
    · have := h i (j - 1) (by omega) (by omega); omega
  · exact h i j hij (by omega)
theorem DecP.snoc {p : Array Nat} {m : Nat} (h : DecP key p m) (hm : 1 ≤ m) (hl : KP key p m < KP key p (m - 1)) : DecP key p (m + 1) := by
  intro i j hij hj
  by_cases e : j = m
  · subst e
    by_cases e2 : i = j - 1
    · subst e2; exact hl
    · have := h i (j - 1) (by omega) (by omega); omega
  · exact h i j hij (by omega)

variable (hk : ∀ i j, i < n → j < n → key i = key j → i = j)
include hk
theorem wk_asc {p : Array Nat} (G : Good n key p) : ∀ (f a : Nat) {Q : Nat → Prop}, 1 ≤ a → a + f ≤ n → IncP key p a → (∀ m, a ≤ m → m ≤ a + f → IncP key p m → (m < a + f → KP key p m < KP key p (m - 1)) → Q m) → Wk n (fun i j => decide (key i < key j)) (kas_asc p f a) Q
  | 0, a, Q, h1, h2, hi, hQ => hQ a (Nat.le_refl _) (by omega) hi (fun h => absurd h (by omega))
  | f + 1, a, Q, h1, h2, hi, hQ => by
    by_cases c : KP key p a < KP key p (a - 1)
    · refine Wk.yes (G.at (by omega)) (G.at (by omega)) c ?_
      exact hQ a (Nat.le_refl _) (by omega) hi fun _ => c
    · refine Wk.no (G.at (by omega)) (G.at (by omega)) c ?_
      show Wk _ _ (kas_asc p f (a + 1)) _
      have hne := G.ne hk (i := a) (j := a - 1) (by omega) (by omega) (by omega)
      exact wk_asc G f (a + 1) (by omega) (by omega) (hi.snoc h1 (by omega)) fun m m1 m2 m3 m4 => hQ m (by omega) (by omega) m3 fun h => m4 (by omega)
theorem wk_desc {p : Array Nat} (G : Good n key p) : ∀ (f a : Nat) {Q : Array Nat × Nat × Nat → Prop}, 1 ≤ a → a + f ≤ n → DecP key p a → (∀ m, a ≤ m → m ≤ a + f → DecP key p m → Q (p, m, 0)) → Wk n (fun i j => decide (key i < key j)) (kas_desc f p a 0) Q
  | 0, a, Q, h1, h2, hi, hQ => hQ a (Nat.le_refl _) (by omega) hi
  | f + 1, a, Q, h1, h2, hi, hQ => by
    by_cases c : KP key p a < KP key p (a - 1)
    · refine Wk.yes (G.at (by omega)) (G.at (by omega)) c ?_
      show Wk _ _ (kas_desc f p (a + 1) 0) _
      exact wk_desc G f (a + 1) (by omega) (by omega) (hi.snoc h1 c) fun m m1 m2 m3 => hQ m (by omega) (by omega) m3
    · refine Wk.no (G.at (by omega)) (G.at (by omega)) c ?_
      have hne := G.ne hk (i := a) (j := a - 1) (by omega) (by omega) (by omega)
      have c2 : KP key p (a - 1) < KP key p a := by omega
      refine Wk.yes (G.at (by omega)) (G.at (by omega)) c2 ?_
      exact hQ a (Nat.le_refl _) (by omega) hi
theorem wk_count {p : Array Nat} (G : Good n key p) (hn : 1 ≤ n) {Q : Nat × Array Nat → Prop} (hQ : ∀ m p', 1 ≤ m → m ≤ n → Good n key p' → IncP key p' m → Q (m, p')) : Wk n (fun i j => decide (key i < key j)) (kas_count n p) Q := by
  unfold kas_count
  refine Wk.bind (wk_asc hk G (n - 1) 1 (Nat.le_refl _) (by omega) (fun i j h1 h2 => by omega) fun m m1 m2 m3 m4 => ?_)
  by_cases e : m = n
  · rw [if_pos (by simp [e])]
    exact hQ m p m1 (by omega) G m3
  · rw [if_neg (by simpa using e)]
    by_cases e2 : m > 1
    · rw [if_pos e2]
      have c : KP key p 0 < KP key p (m - 1) := m3 0 (m - 1) (by omega) (by omega)
      refine Wk.yes (G.at (by omega)) (G.at (by omega)) c ?_
      exact hQ m p m1 (by omega) G m3
    · rw [if_neg e2]
      have e3 : m = 1 := by omega
      subst e3
      have c := m4 (by omega)
      unfold kas_descPart
      refine Wk.bind (wk_desc hk G (n - (1 + 1)) (1 + 1) (by omega) (by omega) (fun i j h1 h2 => ?_) fun d d1 d2 d3 => ?_)
      · have : i = 0 := by omega
        have : j = 1 := by omega
        subst i; subst j
        exact c
      · dsimp only
        rw [if_neg (by omega)]
        unfold kas_tail3
        have G' : Good n key (kas_rev p 0 d) := G.rev 0 d
        refine Wk.bind (wk_asc hk G' (n - d) d (by omega) (by omega) (fun i j h1 h2 => ?_) fun m' a1 a2 a3 _ => ?_)
        · rw [KP_rev (by rw [G.size]; omega) (by omega), KP_rev (by rw [G.size]; omega) h2]
          exact d3 _ _ (by omega) (by omega)
        · exact hQ m' _ (by omega) (by omega) G' a3
theorem wk_place {p : Array Nat} (G : Good n key p) {k : Nat} (hkn : k < n) (hi : IncP key p k) : ∀ (f l r : Nat) {Q : Nat → Prop}, r - l ≤ f → l ≤ r → r ≤ k → (∀ i, i < l → KP key p i < KP key p k) → (∀ i, r ≤ i → i < k → KP key p k < KP key p i) →
    (∀ l, l ≤ k → (∀ i, i < l → KP key p i < KP key p k) → (∀ i, l ≤ i → i < k → KP key p k < KP key p i) → Q l) → Wk n (fun i j => decide (key i < key j)) (kas_place p k f l r) Q
  | 0, l, r, Q, h1, h2, h3, hl, hr, hQ => by
    have e : l = r := by omega
    subst e
    exact hQ l h3 hl hr
  | f + 1, l, r, Q, h1, h2, h3, hl, hr, hQ => by
    unfold kas_place
    by_cases c : l ≥ r
    · rw [if_pos c]
      have e : l = r := by omega
      subst e
      exact hQ l h3 hl hr
    · rw [if_neg c]
      have hm1 : l ≤ (l + r) / 2 := by omega
      have hm2 : (l + r) / 2 < r := by omega
      generalize (l + r) / 2 = M at hm1 hm2
      by_cases c2 : KP key p k < KP key p M
      · refine Wk.yes (G.at hkn) (G.at (by omega)) c2 ?_
        refine wk_place G hkn hi f l M (by omega) hm1 (by omega) hl (fun i h1 h2 => ?_) hQ
        by_cases e : i = M
        · subst e; exact c2
        · have := hi M i (by omega) h2; omega
      · refine Wk.no (G.at hkn) (G.at (by omega)) c2 ?_
        have hne := G.ne hk (i := k) (j := M) hkn (by omega) (by omega)
        refine wk_place G hkn hi f (M + 1) r (by omega) (by omega) h3 (fun i h1 => ?_) hr hQ
        by_cases e : i = M
        · subst e; omega
        · have := hi i M (by omega) (by omega); omega
theorem wk_bin : ∀ (f : Nat) (p : Array Nat) (k : Nat) {Q : Array Nat → Prop}, Good n key p → k + f = n → IncP key p k → (∀ p', Good n key p' → IncP key p' n → Q p') → Wk n (fun i j => decide (key i < key j)) (kas_bin f p k) Q
  | 0, p, k, Q, G, hf, hi, hQ => hQ p G (by have : k = n := by omega
                                            subst this; exact hi)
  | f + 1, p, k, Q, G, hf, hi, hQ => by
    show Wk _ _ ((kas_place p k k 0 k).bind fun l => kas_bin f (bubble p k (k - l)) (k + 1)) Q
    refine Wk.bind (wk_place hk G (by omega) hi k 0 k (by omega) (Nat.zero_le _) (Nat.le_refl _) (fun i h => absurd h (Nat.not_lt_zero _)) (fun i h1 h2 => absurd h2 (Nat.not_lt.mpr h1)) fun l hl hA hB => ?_)
    refine wk_bin f _ (k + 1) (G.bub k (k - l)) (by omega) (fun i j hij hj => ?_) hQ
    have hkl : k - (k - l) = l := by omega
    rw [KP_bub (by rw [G.size]; omega) (by omega), KP_bub (by rw [G.size]; omega) (by omega), hkl]
    by_cases ei : i = l
    · rw [if_pos ei, if_neg (by omega), if_pos (by omega)]
      exact hB _ (by omega) (by omega)
    · rw [if_neg ei]
      by_cases ej : j = l
      · rw [if_pos ej, if_neg (by omega)]
        exact hA _ (by omega)
      · rw [if_neg ej]
        by_cases ci : l < i ∧ i ≤ k
        · rw [if_pos ci, if_pos (by omega)]
          exact hi _ _ (by omega) (by omega)
        · rw [if_neg ci]
          by_cases cj : l < j ∧ j ≤ k
          · rw [if_pos cj]
            by_cases e : i = j - 1
            · omega
            · exact hi _ _ (by omega) (by omega)
          · rw [if_neg cj]
            exact hi _ _ hij (by omega)
/-- the sort's tree sorts -/
theorem wk_sort (hn : 1 ≤ n) {Q : Array Nat → Prop} (hQ : ∀ p, Good n key p → IncP key p n → Q p) : Wk n (fun i j => decide (key i < key j)) (kas_sort n) Q := by
  unfold kas_sort
  have G₀ : Good n key (List.toArray (List.range n)) := ⟨List.Perm.refl _⟩
  refine Wk.bind (wk_count hk G₀ hn fun m p m1 m2 G hi => ?_)
  dsimp only
  by_cases e : m < n
  · rw [if_pos e, Nat.max_eq_left m1]
    exact wk_bin hk _ p m G (by omega) hi hQ
  · rw [if_neg e]
    have : m = n := by omega
    subst this
    exact hQ p G hi
end
end Mine
end

section
open PySem PySem.Spec PySem.Calls PySem.W PyProof.Rows
open Sem (wp)
set_option Elab.async false
set_option maxRecDepth 100000
set_option maxHeartbeats 4000000
namespace Mine

/-- a place's key: ('p', k, 'p') -/
abbrev pk (P : Str) (k : Int) (t₁ t₂ t₃ : Tok) : Obj := { cls := .type "tuple", data := .seq #[.str P t₁, .int k t₂, .str P t₃] }

def IsPk (P : Str) (h : Heap) (k : Int) (a : Addr) : Prop := ∃ t₁ t₂ t₃, h.get? a = some (pk P k t₁ t₂ t₃)

def easyHash (w : World) : Value → Int
  | .str x _ => hashStr w x
  | .int k _ => hashInt k
  | _ => 0
def Easy : Value → Prop
  | .str _ _ => True
  | .int _ _ => True
  | _ => False

section
variable {prog : Program} {w : World} {A : Around} {E : Value → Shared → Prop} {s : Shared} {P : Str}

theorem easy_hash {v : Value} {Q : Int → Shared → Prop} (hv : Easy v) (h : Q (easyHash w v) { s with toks := s.toks + 1 }) : wpAny (model prog w) A (pyHash v) Q E s := by
  match v, hv with
  | .str x t, _ => exact wpAny_pyHash_str h
  | .int k t, _ => exact wpAny_pyHash_int h

def pkHash (P : Str) (w : World) (k : Int) : Int := reduceHash (Builtin.Tuple.tupleHashOf [hashStr w P, hashInt k, hashStr w P])

theorem IsPk.typeIs {k : Int} {a : Addr} (x : IsPk P s.heap k a) : s.TypeIs (.ref a) "tuple" := let ⟨_, _, _, ho⟩ := x; ⟨_, ho, rfl⟩

theorem pk_hash {k : Int} {a : Addr} {Q : Int → Shared → Prop} (hu : A.units < cLine) (hk : IsPk P s.heap k a) (h : Q (pkHash P w k) { s with toks := s.toks + 4 }) :
    wpAny (model prog w) A (pyHash (.ref a)) Q E s := by
  have hT := hk.typeIs
  obtain ⟨t₁, t₂, t₃, ho⟩ := hk
  unfold pyHash
  first | unfold pyHashByItsType | skip
  first | refine wpAny_bind (wpAny_cRoomFor_or (.inr hu) ?_) | skip
  refine wpAny_bind (wpAny_specialOf hT F.slot_tuple_hash.lookup ?_)
  show wpAny _ _ (if (some (Value.builtin "tuple.__hash__") == some Value.none) = true then _ else _) Q E s
  rw [if_neg (by rw [beq_builtin_none]; exact Bool.false_ne_true)]
  refine wpAny_bind (wpAny_specialOf hT F.slot_tuple_hash.lookup ?_)
  show wpAny _ _ (callSpecialIfBoundUnlessNone? (.ref a) "__hash__" _ >>= _) Q E s
  refine wpAny_bind (wpAny_callSpecialIfBoundUnlessNone?_slot hT F.slot_tuple_hash (wpAny_call_entry F.slot_tuple_hash hT F.entry_tuple_hash ?_ (F.args_tuple_hash_1 _)))
  show wpAny _ _ (Builtin.Tuple.tupleItemsOf (.ref a) >>= _) _ _ s
  refine wpAny_bind (wpAny_tupleItemsOf ho rfl ?_)
  refine wpAny_bind ?_
  rw [← Array.forIn_toList]
  refine wpAny_forIn_list _
    (fun rest (b : Array Int) s' => ∃ done, [Value.str P t₁, .int k t₂, .str P t₃] = done ++ rest ∧ b.toList = done.map (easyHash w) ∧ s' = { s with toks := s.toks + done.length })
    _ ?_ ?_ _ _ ⟨[], rfl, rfl, rfl⟩
  · rintro x rest b s' ⟨done, hl, hb, rfl⟩
    have hx : Easy x := by
      have hm : x ∈ [Value.str P t₁, .int k t₂, .str P t₃] := by rw [hl]; simp
      simp only [List.mem_cons, List.not_mem_nil, or_false] at hm
      rcases hm with rfl | rfl | rfl <;> exact trivial
    refine wpAny_bind (easy_hash hx ?_)
    first
      | exact wpAny_pure ⟨done ++ [x], by simp [hl], by simp [hb], by simp [Nat.add_assoc]⟩
      | exact wpAny_bind (wpAny_pure (wpAny_pure ⟨done ++ [x], by simp [hl], by simp [hb], by simp [Nat.add_assoc]⟩))
  · rintro b s' ⟨done, hl, hb, rfl⟩
    rw [List.append_nil] at hl
    subst hl
    have hb' : b.toList = [hashStr w P, hashInt k, hashStr w P] := hb
    show wpAny _ _ (retInt (Builtin.Tuple.tupleHashOf b.toList)) _ _ _
    rw [hb']
    refine wpAny_ret_mkInt ?_
    generalize hZ : Builtin.Tuple.tupleHashOf [hashStr w P, hashInt k, hashStr w P] = Z
    show wpAny _ _ (if (decide (-(2 : Int) ^ 63 ≤ Z) && decide (Z < 2 ^ 63)) = true then _ else _) Q E _
    unfold pkHash reduceHash at h
    rw [hZ] at h
    by_cases hr : (decide (-(2 : Int) ^ 63 ≤ Z) && decide (Z < 2 ^ 63)) = true
    · rw [if_pos hr]
      rw [if_pos hr] at h
      exact wpAny_pure (by simpa [Nat.add_assoc] using h)
    · rw [if_neg hr]
      rw [if_neg hr] at h
      exact wpAny_bind (wpAny_rule (wpAny_pure (by simpa [Nat.add_assoc] using h)))

theorem pk_eq_tree {x y : Int} {a b : Addr} {R : Fin → Shared → Prop} (hx : IsPk P s.heap x a) (hy : IsPk P s.heap y b) (h : R (.done (.ret (.bool (decide (x = y))))) s) :
    wpAny (model prog w) A (Builtin.«tuple.__eq__» ⟨[.ref a, .ref b], []⟩) R E s := by
  have hTb := hy.typeIs
  obtain ⟨t₁, t₂, t₃, hoa⟩ := hx
  obtain ⟨u₁, u₂, u₃, hob⟩ := hy
  show wpAny _ _ (isInstance (.ref b) (.type "tuple") >>= _) _ _ s
  refine wpAny_bind (wpAny_isInstance hTb isSubtype_tuple_tuple ?_)
  simp only [Bool.not_true, Bool.false_eq_true, if_false]
  refine wpAny_bind (wpAny_tupleItemsOf hoa rfl ?_)
  refine wpAny_bind (wpAny_tupleItemsOf hob rfl ?_)
  refine wpAny_bind ?_
  refine wpAny_forIn_list _
    (fun rest r s' => r.1 = none ∧ s' = s ∧ ((rest = [(Value.str P t₁, Value.str P u₁), (.int x t₂, .int y u₂), (.str P t₃, .str P u₃)])
      ∨ (rest = [(.int x t₂, .int y u₂), (.str P t₃, .str P u₃)]) ∨ (x = y ∧ (rest = [(.str P t₃, .str P u₃)] ∨ rest = []))))
    _ ?_ ?_ _ _ ⟨rfl, rfl, .inl rfl⟩
  · rintro ⟨u, v⟩ rest r s' ⟨hr, rfl, hrest⟩
    rcases hrest with e | e | ⟨hxy, e | e⟩
    · simp only [List.cons.injEq, Prod.mk.injEq] at e
      obtain ⟨⟨rfl, rfl⟩, rfl⟩ := e
      refine wpAny_bind (wpAny_eqBool_str ?_)
      rw [decide_eq_true rfl, if_neg (by decide)]
      exact wpAny_pure ⟨rfl, rfl, .inr (.inl rfl)⟩
    · simp only [List.cons.injEq, Prod.mk.injEq] at e
      obtain ⟨⟨rfl, rfl⟩, rfl⟩ := e
      refine wpAny_bind (wpAny_eqBool_int ?_)
      by_cases hk : x = y
      · have e : (x == y) = true := by simp [hk]
        rw [e, if_neg (by decide)]
        exact wpAny_pure ⟨rfl, rfl, .inr (.inr ⟨hk, .inl rfl⟩)⟩
      · have e : (x == y) = false := by simp [hk]
        rw [decide_eq_false hk] at h
        rw [e, if_pos (by decide)]
        exact wpAny_bind (wpAny_pure (wpAny_pure (wpAny_pure h)))
    · simp only [List.cons.injEq, Prod.mk.injEq] at e
      obtain ⟨⟨rfl, rfl⟩, rfl⟩ := e
      refine wpAny_bind (wpAny_eqBool_str ?_)
      rw [decide_eq_true rfl, if_neg (by decide)]
      exact wpAny_pure ⟨rfl, rfl, .inr (.inr ⟨hxy, .inr rfl⟩)⟩
    · cases e
  · rintro ⟨r1, r2⟩ s' ⟨hr, rfl, hrest⟩
    have hr : r1 = none := hr
    subst hr
    refine wpAny_pure ?_
    have hxy : x = y := by
      rcases hrest with e | e | ⟨hxy, _⟩
      · cases e
      · cases e
      · exact hxy
    rw [decide_eq_true hxy] at h
    show R (.done (.ret (.bool ((#[Value.str P t₁, .int x t₂, .str P t₃] : Array Value).size == (#[Value.str P u₁, .int y u₂, .str P u₃] : Array Value).size)))) s'
    have e : ((#[Value.str P t₁, .int x t₂, .str P t₃] : Array Value).size == (#[Value.str P u₁, .int y u₂, .str P u₃] : Array Value).size) = true := rfl
    rw [e]
    exact h

theorem pk_eqBool {x y : Int} {a b : Addr} {Q : Bool → Shared → Prop} (hu : A.units < cLine) (hx : IsPk P s.heap x a) (hy : IsPk P s.heap y b) (h : Q (decide (x = y)) s) :
    wpAny (model prog w) A (eqBool (.ref a) (.ref b)) Q E s := by
  unfold eqBool
  try with_reducible refine wpAny_holding ?_
  show wpAny _ _ (if (Value.ref a == Value.ref b) = true then _ else _) Q E s
  by_cases hab : (Value.ref a == Value.ref b) = true
  · rw [if_pos hab]
    have e : a = b := by have := eq_of_beq hab; injection this
    subst e
    obtain ⟨_, _, _, h1⟩ := hx
    obtain ⟨_, _, _, h2⟩ := hy
    rw [h1] at h2
    have e : x = y := by
      have z := congrArg Obj.data (Option.some.inj h2)
      injection z with z _
      simp at z
      exact z.2.1.1
    exact wpAny_bind (wpAny_rule (wpAny_pure (by simpa [e] using h)))
  · rw [if_neg hab]
    exact wpAny_bind (wpAny_richCompare_same_room (op := .Eq) hx.typeIs hy.typeIs F.slot_tuple_eq
      (wpAny_call_entry F.slot_tuple_eq hx.typeIs F.entry_tuple_eq (pk_eq_tree hx hy ⟨_, rfl, (fun e => nomatch e), wpAny_truthy_bool h⟩) (F.args_tuple_eq_2 _ _)) hu)

theorem pk_quiet {k : Int} {a : Addr} {Q : Bool → Shared → Prop} (hk : IsPk P s.heap k a) (h : Q true s) : wpAny (model prog w) A (eqIsQuiet 8 (.ref a)) Q E s := by
  have hT := hk.typeIs
  obtain ⟨t₁, t₂, t₃, ho⟩ := hk
  unfold eqIsQuiet
  refine wpAny_bind (wpAny_specialOf hT F.slot_tuple_eq.lookup ?_)
  show wpAny _ _ (isInstance (.ref a) (.type "tuple") >>= _) _ _ s
  refine wpAny_bind (wpAny_isInstance hT isSubtype_tuple_tuple ?_)
  rw [if_neg (by decide)]
  refine wpAny_bind (wpAny_seqItems ho rfl ?_)
  refine wpAny_bind ?_
  show wpAny _ _ (forIn _ _ _) _ _ s
  rw [← Array.forIn_toList]
  refine wpAny_forIn_list _ (fun rest r s' => r.1 = none ∧ s' = s ∧ ∀ v ∈ rest, carriedByValue v = true) _ ?_ ?_ _ _ ⟨rfl, rfl, ?_⟩
  · rintro v rest r s' ⟨hr, rfl, hall⟩
    rw [eqIsQuiet_byValue _ (hall v List.mem_cons_self)]
    refine wpAny_bind (wpAny_pure ?_)
    rw [if_neg (by decide)]
    exact wpAny_pure ⟨rfl, rfl, fun u hu' => hall u (List.mem_cons_of_mem _ hu')⟩
  · rintro ⟨r1, r2⟩ s' ⟨hr, rfl, _⟩
    have hr : r1 = none := hr
    subst hr
    exact wpAny_pure h
  · intro v hv
    have hv : v ∈ [Value.str P t₁, .int k t₂, .str P t₃] := hv
    simp only [List.mem_cons, List.not_mem_nil, or_false] at hv
    rcases hv with rfl | rfl | rfl <;> rfl
end

theorem IsPk.inj {P : Str} {h : Heap} {a : Addr} {x y : Int} (hx : IsPk P h x a) (hy : IsPk P h y a) : x = y := by
  obtain ⟨_, _, _, h1⟩ := hx
  obtain ⟨_, _, _, h2⟩ := hy
  rw [h1] at h2
  have z := congrArg Obj.data (Option.some.inj h2)
  injection z with z _
  simp at z
  exact z.2.1.1

def pkKind (P : Str) (prog : Program) (w : World) : HeapKind prog w Int where
  is := IsPk P
  hash := pkHash P w
  draws := fun _ => 4
  room := fun A => A.units < cLine
  inj := fun hx hy => hx.inj hy
  keeps := fun {h h' k a d o es ep} x ho hd hs => by
    obtain ⟨t₁, t₂, t₃, h1⟩ := x
    refine ⟨t₁, t₂, t₃, (hs.2 a ?_).trans h1⟩
    rintro rfl
    rw [ho] at h1
    rw [Option.some.inj h1] at hd
    cases hd
  pyHash := fun hu hk h => pk_hash hu hk h
  eqBool := fun hu hx hy h => pk_eqBool hu hx hy h
  quiet := fun hk h => pk_quiet hk h
end Mine
end

section
open PySem PySem.Spec PySem.Calls PySem.W PyProof.Rows
open Sem (wp)
set_option Elab.async false
set_option maxRecDepth 100000
set_option maxHeartbeats 4000000
namespace Mine

/-- a dict, by its entries -/
def RawDict (h : Heap) (d : Addr) (es : Array DictEntry) (ep : Nat) : Prop := ∃ o, h.get? d = some o ∧ o.cls = .type "dict" ∧ o.data = .dict es ep
theorem RawDict.typeIs {s : Shared} {d : Addr} {es : Array DictEntry} {ep : Nat} (x : RawDict s.heap d es ep) : s.TypeIs (.ref d) "dict" := let ⟨o, ho, hc, _⟩ := x; ⟨o, ho, hc⟩

/-- an iterator of n items, for a for -/
structure FIter (prog : Program) (w : World) (A : Around) (target : Expr) (I : Addr) (n : Nat) (P : Nat → Value → Heap → Prop) (It : Nat → Heap → Prop) (Ok : Heap → Prop) : Prop where
  item : ∀ i (s : Shared) (N : Shared → Prop) (Q : Value → Shared → Prop) (E : Value → Shared → Prop), i < n → It i s.heap → Ok s.heap →
    (∀ v h₁ tk₁, P i v h₁ → It (i + 1) h₁ → Heap.ExtBut I s.heap h₁ → Q v { s with heap := h₁, toks := tk₁ }) →
    wpAny (model prog w) A (pyNext (.ref I)) (fun r s₁ => match r with
      | none => N s₁
      | some v => wpAny (model prog w) A (letOwnedTupleGo target (.ref I) v) (fun _ s₂ => Q v s₂) E s₁) E s
  done : ∀ (s : Shared) (Q : Option Value → Shared → Prop) (E : Value → Shared → Prop), It n s.heap → Ok s.heap → (∀ h₁ tk₁, Heap.ExtBut I s.heap h₁ → Q none { s with heap := h₁, toks := tk₁ }) → wpAny (model prog w) A (pyNext (.ref I)) Q E s
  obj : ∀ i (h : Heap), It i h → ∃ io, h.get? I = some io ∧ ∀ h' : Heap, h'.get? I = some io → It i h'

section
variable {prog : Program} {w : World} {A : Around} {E : Value → Shared → Prop} {s : Shared} {env : Env} {h₀ : Heap} {R : Result → Shared → Prop}

theorem for_iter {target : Expr} {body : List Stmt} {I : Addr} {n : Nat} {P : Nat → Value → Heap → Prop} {It : Nat → Heap → Prop} {Ok : Heap → Prop} {m₀ : Str → Option Value} {news₀ : List (Addr × Obj)}
    (K : FIter prog w A target I n P It Ok) (J : Nat → (Str → Option Value) → List (Addr × Obj) → Prop)
    (F : Fr h₀ env.locals s.heap m₀) (Nw : News h₀ env.locals s.heap news₀) (I₀ : It 0 s.heap) (hI : I ≠ env.locals ∧ h₀.get? I = none) (off₀ : ∀ p ∈ news₀, p.1 ≠ I) (hj : J 0 m₀ news₀)
    (hok : ∀ i m news h, J i m news → Fr h₀ env.locals h m → News h₀ env.locals h news → Ok h)
    (turn : ∀ i v m news h tk io, J i m news → i < n → P i v h → Fr h₀ env.locals h m → News h₀ env.locals h ((I, io) :: news) → (∀ p ∈ news, p.1 ≠ I) →
      ∀ E', wpAny (model prog w) A (assign target env v) (fun _ s₂ => wpAny (model prog w) A (execs body env) (TurnEnd h₀ env.locals (J (i + 1)) R I io { s with heap := h, toks := tk }) E' s₂) E' { s with heap := h, toks := tk })
    (done : ∀ m news h tk, J n m news → Fr h₀ env.locals h m → News h₀ env.locals h news → R (.ok .next) { s with heap := h, toks := tk }) :
    codeAny (model prog w) A (.forLoop target (.ref I) body [] env) R s := by
  refine codeAny_forLoop_any (fun k s' => ∃ i m news h tk, s' = { s with heap := h, toks := tk } ∧ k = n + 1 - i ∧ i ≤ n ∧ It i h ∧ Fr h₀ env.locals h m ∧ News h₀ env.locals h news ∧ (∀ p ∈ news, p.1 ≠ I) ∧ J i m news) ?_ (n + 1)
    ⟨0, m₀, news₀, s.heap, s.toks, rfl, rfl, Nat.zero_le _, I₀, F, Nw, off₀, hj⟩
  rintro k s' ⟨i, m, news, h, tk, rfl, rfl, hin, hIt, F', Nw', hoff, hJ⟩
  have hok' : Ok h := hok i m news h hJ F' Nw'
  by_cases hlt : i < n
  · refine wpAny_mono (K.item i _ (fun _ => False) (fun v s₂ => wpAny (model prog w) A (assign target env v) (fun _ s₃ => wpAny (model prog w) A (execs body env) (fun f s₄ => match f with
            | .next | .cont => ∃ m', m' < n + 1 - i ∧ ∃ i m news h tk, s₄ = { s with heap := h, toks := tk } ∧ m' = n + 1 - i ∧ i ≤ n ∧ It i h ∧ Fr h₀ env.locals h m ∧ News h₀ env.locals h news ∧ (∀ p ∈ news, p.1 ≠ I) ∧ J i m news
            | .brk => R (.ok .next) s₄
            | .ret v => R (.ok (.ret v)) s₄) (notedBy (model prog w) A env fun e s' => R (.error e) s') s₃) (notedBy (model prog w) A env fun e s' => R (.error e) s') s₂) _ hlt hIt hok' ?_) ?_ fun _ _ e => e
    · intro v h₁ tk₁ hP hIt₁ hx
      obtain ⟨io, hio, hiof⟩ := K.obj _ _ hIt₁
      have F₁ : Fr h₀ env.locals h₁ m := ⟨F'.ns.at' fun o e => hx _ o (Ne.symm hI.1) e, fun b o e => hx b o (fun q => by rw [q, hI.2] at e; cases e) (F'.keep b o e), F'.above⟩
      have N₁ : News h₀ env.locals h₁ ((I, io) :: news) := fun p hp => by
        rcases List.mem_cons.mp hp with rfl | hp
        · exact ⟨hio, hI⟩
        · exact ⟨hx _ _ (hoff p hp) (Nw' p hp).1, (Nw' p hp).2⟩
      refine wpAny_mono (turn i v m news h₁ tk₁ io hJ hlt hP F₁ N₁ hoff _) (fun _ s₂ h₂ => ?_) fun _ _ e => e
      refine wpAny_mono h₂ (fun f s₃ h₃ => ?_) fun _ _ e => e
      have fin : (∃ h' tk' m' news', s₃ = { ({ s with heap := h₁, toks := tk₁ } : Shared) with heap := h', toks := tk' } ∧ Fr h₀ env.locals h' m' ∧ News h₀ env.locals h' ((I, io) :: news') ∧ (∀ p ∈ news', p.1 ≠ I) ∧ J (i + 1) m' news') →
          ∃ k', k' < n + 1 - i ∧ ∃ i m news h tk, s₃ = { s with heap := h, toks := tk } ∧ k' = n + 1 - i ∧ i ≤ n ∧ It i h ∧ Fr h₀ env.locals h m ∧ News h₀ env.locals h news ∧ (∀ p ∈ news, p.1 ≠ I) ∧ J i m news := by
        rintro ⟨h', tk', m', news', rfl, F2, N2, hoff2, hJ2⟩
        exact ⟨n + 1 - (i + 1), by omega, i + 1, m', news', h', tk', rfl, rfl, by omega, hiof _ (N2 _ (.head _)).1, F2, fun p hp => N2 p (.tail _ hp), hoff2, hJ2⟩
      cases f with
      | ret v => exact h₃
      | brk => exact h₃
      | next => exact fin h₃
      | cont => exact fin h₃
    · intro r s₁ h₁
      cases r with
      | none => exact h₁.elim
      | some v => exact h₁
  · have hin' : i = n := by omega
    subst hin'
    refine K.done _ _ _ hIt hok' fun h₁ tk₁ hx => wpAny_execs_nil ?_
    exact done m news h₁ tk₁ hJ ⟨F'.ns.at' fun o e => hx _ o (Ne.symm hI.1) e, fun b o e => hx b o (fun q => by rw [q, hI.2] at e; cases e) (F'.keep b o e), F'.above⟩ fun p hp => ⟨hx _ _ (hoff p hp) (Nw' p hp).1, (Nw' p hp).2⟩

variable {d v it : Addr} {es : Array DictEntry} {ep i : Nat}

/-- d.items(), any keys -/
theorem items_call {Q : Value → Shared → Prop} (hd : (d == sysModules) = false) (hm : RawDict s.heap d es ep)
    (h : Q (.ref s.heap.objs.size) { s with heap := s.heap.push { cls := .type "dict_items", data := .fields #[.ref d] } }) :
    wpAny (model prog w) A (call (.builtin "dict.items") [.ref d]) Q E s := by
  refine wpAny_call_entry F.slot_dict_items hm.typeIs F.entry_dict_items ?_ (F.args_dict_items_1 _)
  unfold Builtin.«dict.items»
  refine wpAny_bind ?_
  unfold Builtin.Dict.noArgs
  refine wpAny_bind (wpAny_notOrdered_dict hm.typeIs ?_)
  show wpAny _ _ (pure d) _ _ s
  refine wpAny_pure ?_
  show wpAny _ _ (Builtin.Dict.showsAll d >>= _) _ _ s
  unfold Builtin.Dict.showsAll
  rw [if_neg (by rw [hd]; exact Bool.false_ne_true)]
  exact wpAny_bind (wpAny_pure (wpAny_bind (wpAny_newObj_type (wpAny_pure ⟨_, rfl, h⟩))))

theorem values_call {Q : Value → Shared → Prop} (hd : (d == sysModules) = false) (hm : RawDict s.heap d es ep)
    (h : Q (.ref s.heap.objs.size) { s with heap := s.heap.push { cls := .type "dict_values", data := .fields #[.ref d] } }) :
    wpAny (model prog w) A (call (.builtin "dict.values") [.ref d]) Q E s := by
  refine wpAny_call_entry F.slot_dict_values hm.typeIs F.entry_dict_values ?_ (F.args_dict_values_1 _)
  unfold Builtin.«dict.values»
  refine wpAny_bind ?_
  unfold Builtin.Dict.noArgs
  refine wpAny_bind (wpAny_notOrdered_dict hm.typeIs ?_)
  show wpAny _ _ (pure d) _ _ s
  refine wpAny_pure ?_
  show wpAny _ _ (Builtin.Dict.showsAll d >>= _) _ _ s
  unfold Builtin.Dict.showsAll
  rw [if_neg (by rw [hd]; exact Bool.false_ne_true)]
  exact wpAny_bind (wpAny_pure (wpAny_bind (wpAny_newObj_type (wpAny_pure ⟨_, rfl, h⟩))))

theorem items_iter {Q : Value → Shared → Prop} (hov : s.heap.get? v = some { cls := .type "dict_items", data := .fields #[.ref d] }) (hm : RawDict s.heap d es ep)
    (hQ : Q (.ref s.heap.objs.size) { s with heap := s.heap.push { cls := .type "dict_itemiterator", data := .fields #[.none, .bool false, .ref d, .int 0 0, .int es.size 0, .int ep 0, .none, .none] } }) :
    wpAny (model prog w) A (pyIter (.ref v)) Q E s := by
  obtain ⟨o, ho, hc, hdat⟩ := hm
  have hT : s.TypeIs (.ref v) "dict_items" := ⟨_, hov, rfl⟩
  refine wpAny_pyIter_slot hT F.slot_dict_items_iter (wpAny_call_entry F.slot_dict_items_iter hT F.entry_dict_items_iter ?_ (F.args_dict_items_iter_1 _))
  unfold Builtin.«dict_items.__iter__»
  refine wpAny_bind (wpAny_pure (wpAny_bind ?_))
  unfold Builtin.Dict_items.dictOf
  refine wpAny_bind (wpAny_field hov rfl (x := .ref d) rfl (wpAny_pure (wpAny_bind ?_)))
  unfold Builtin.Dict_items.newIterator
  refine wpAny_bind (wpAny_dictEntries ho hdat (wpAny_bind (wpAny_dictEpoch ho hdat ?_)))
  have hown : Builtin.Dict_items.ownsTuple "dict_itemiterator" = true := by decide
  simp only [hown, if_true]
  refine wpAny_newObj_type (wpAny_pure ⟨_, rfl, "dict_itemiterator", _, ⟨_, Heap.get?_push_size _ rfl, rfl⟩, F.slot_dict_itemiterator_next.lookup, ?_⟩)
    (by simp only [sizeOk, Builtin.Dict_items.ownedTupleFields, List.size_toArray, List.length_append, List.length_cons, List.length_nil, sizeLine_eq]; omega)
  simpa [rawInt, Builtin.Dict_items.ownedTupleFields] using hQ

theorem values_iter {Q : Value → Shared → Prop} (hov : s.heap.get? v = some { cls := .type "dict_values", data := .fields #[.ref d] }) (hm : RawDict s.heap d es ep)
    (hQ : Q (.ref s.heap.objs.size) { s with heap := s.heap.push { cls := .type "dict_valueiterator", data := .fields #[.ref d, .int 0 0, .int es.size 0, .int ep 0] } }) :
    wpAny (model prog w) A (pyIter (.ref v)) Q E s := by
  obtain ⟨o, ho, hc, hdat⟩ := hm
  have hT : s.TypeIs (.ref v) "dict_values" := ⟨_, hov, rfl⟩
  refine wpAny_pyIter_slot hT F.slot_dict_values_iter (wpAny_call_entry F.slot_dict_values_iter hT F.entry_dict_values_iter ?_ (F.args_dict_values_iter_1 _))
  unfold Builtin.«dict_values.__iter__»
  refine wpAny_bind (wpAny_pure (wpAny_bind ?_))
  unfold Builtin.Dict_items.dictOf
  refine wpAny_bind (wpAny_field hov rfl (x := .ref d) rfl (wpAny_pure (wpAny_bind ?_)))
  unfold Builtin.Dict_items.newIterator
  refine wpAny_bind (wpAny_dictEntries ho hdat (wpAny_bind (wpAny_dictEpoch ho hdat ?_)))
  have hown : Builtin.Dict_items.ownsTuple "dict_valueiterator" = false := by decide
  simp only [hown, Bool.false_eq_true, if_false]
  refine wpAny_newObj_type (wpAny_pure ⟨_, rfl, "dict_valueiterator", _, ⟨_, Heap.get?_push_size _ rfl, rfl⟩, F.slot_dict_valueiterator_next.lookup, ?_⟩)
  simpa [rawInt] using hQ

theorem items_next {e : DictEntry} {ok ov : Value} {Q : Option Value → Shared → Prop} (hit : IsItemIter s.heap it d i es.size ep ok ov) (hm : RawDict s.heap d es ep) (hx : es[i]? = some e)
    (hQ : ∀ h', IsItemIterOut h' it d (i + 1) es.size ep e.key e.val s.heap.objs.size → h'.get? s.heap.objs.size = some { cls := .type "tuple", data := .seq #[e.key, e.val] } →
      (∀ b o, b ≠ it → s.heap.get? b = some o → h'.get? b = some o) → Q (some (.ref s.heap.objs.size)) { s with heap := h' }) :
    wpAny (model prog w) A (pyNext (.ref it)) Q E s := by
  obtain ⟨hp, g, dr, tk, os⟩ := s
  obtain ⟨od, hod, hcd, hdd⟩ := hm
  have hT : Shared.TypeIs ⟨hp, g, dr, tk, os⟩ (.ref it) "dict_itemiterator" := ⟨_, hit, rfl⟩
  have hown : Builtin.Dict_items.ownsTuple "dict_itemiterator" = true := by decide
  unfold pyNext
  refine wpAny_bind (wpAny_attempt (wpAny_callSpecial?_slot (name := Str.ofString "__next__") hT F.slot_dict_itemiterator_next
    (wpAny_call_entry F.slot_dict_itemiterator_next hT F.entry_dict_itemiterator_next ?_ (F.args_dict_itemiterator_next_1 _))))
  refine wpAny_bind (wpAny_pure (wpAny_bind (wpAny_bind ?_)))
  first | refine wpAny_bind (wpAny_typeNameOfWhole_itemiter hT (wpAny_pure ?_)) | refine wpAny_bind (wpAny_typeNameOf_itemiter hT (wpAny_pure ?_))
  refine wpAny_bind (wpAny_fieldsOf hit rfl ?_)
  simp only [hown, if_true]
  show wpAny _ _ (if (Value.ref d == Value.none) = true then _ else _) _ _ _
  rw [if_neg (show ¬ ((Value.ref d == Value.none) = true) from Bool.false_ne_true)]
  refine wpAny_bind (wpAny_pure (wpAny_bind (wpAny_dictEntries hod hdd ?_)))
  rw [if_neg (by simp)]
  refine wpAny_bind (wpAny_pure (wpAny_bind (wpAny_dictEpoch hod hdd ?_)))
  rw [if_neg (by simp)]
  refine wpAny_pure ?_
  obtain ⟨hlt, rfl⟩ := Array.getElem?_eq_some_iff.mp hx
  simp only [show ¬ ((i : Int) < 0) from by omega, if_false, Int.toNat_natCast, Array.getElem?_eq_getElem hlt]
  refine wpAny_bind ?_
  first | refine wpAny_bind (wpAny_typeNameOfWhole_itemiter hT (wpAny_pure ?_)) | refine wpAny_bind (wpAny_typeNameOf_itemiter hT (wpAny_pure ?_))
  refine wpAny_bind (wpAny_isOneOf_itemiter hT ?_)
  show wpAny _ _ (setField (.ref it) 3 (rawInt ((i : Int) + 1)) >>= _) _ _ ⟨hp, g, dr, tk, os⟩
  refine wpAny_bind (wpAny_setField_rec hit (by simp) fun h₁ he₁ hs₁ => ?_)
  replace hs₁ : Heap.SameBut it hp h₁ := hs₁
  replace he₁ : IsItemIter h₁ it d (i + 1) es.size ep ok ov := by
    have e : ((i + 1 : Nat) : Int) = (i : Int) + 1 := by omega
    unfold IsItemIter; rw [e]; simpa [rawInt] using he₁
  have hT₁ : Shared.TypeIs ⟨h₁, g, dr, tk, os⟩ (.ref it) "dict_itemiterator" := ⟨_, he₁, rfl⟩
  refine wpAny_bind (wpAny_holding (wpAny_bind (wpAny_isOneOf_itemiter hT₁ (wpAny_bind (wpAny_isOneOf_itemiter hT₁ ?_)))))
  show wpAny _ _ (Builtin.Dict_items.pairFromOwner (.ref it) 6 es[i].key es[i].val) _ _ ⟨h₁, g, dr, tk, os⟩
  unfold Builtin.Dict_items.pairFromOwner
  refine wpAny_bind (wpAny_newTuple ?_)
  have he₂ : IsItemIter (h₁.push { cls := .type "tuple", data := .seq #[es[i].key, es[i].val] }) it d (i + 1) es.size ep ok ov := Heap.get?_push_of_some _ he₁
  generalize hh₂ : h₁.push { cls := .type "tuple", data := .seq #[es[i].key, es[i].val] } = h₂ at he₂
  have hz₁ : h₁.objs.size = hp.objs.size := hs₁.1
  have hil : it < hp.objs.size := Heap.lt_size hit
  have ht₂ : h₂.get? hp.objs.size = some { cls := .type "tuple", data := .seq #[es[i].key, es[i].val] } := by rw [← hh₂, ← hz₁]; exact Heap.get?_push_size _ rfl
  have hk₂ : ∀ b o, b ≠ it → hp.get? b = some o → h₂.get? b = some o := fun b o hb e => by rw [← hh₂]; exact Heap.get?_push_of_some _ (hs₁.extBut b o hb e)
  show wpAny _ _ (Builtin.Dict_items.ownedTupleIsFree (.ref it) >>= _) _ _ ⟨h₂, g, dr, tk, os⟩
  rw [hz₁]
  clear hh₂ he₁ hs₁ hT₁ hz₁ h₁
  refine wpAny_bind ?_
  unfold Builtin.Dict_items.ownedTupleIsFree
  refine wpAny_bind (wpAny_field he₂ rfl (x := .none) rfl (wpAny_pure ?_))
  simp only [if_true]
  refine wpAny_bind (wpAny_field he₂ rfl (x := ok) rfl (wpAny_bind (wpAny_field he₂ rfl (x := ov) rfl ?_)))
  refine wpAny_bind (wpAny_setField_rec he₂ (by simp) fun h₃ he₃ hs₃ => ?_)
  replace hs₃ : Heap.SameBut it h₂ h₃ := hs₃
  replace he₃ : IsItemIter h₃ it d (i + 1) es.size ep es[i].key ov := he₃
  refine wpAny_bind (wpAny_setField_rec he₃ (by simp) fun h₄ he₄ hs₄ => ?_)
  replace hs₄ : Heap.SameBut it h₃ h₄ := hs₄
  replace he₄ : IsItemIter h₄ it d (i + 1) es.size ep es[i].key es[i].val := he₄
  refine wpAny_bind (wpAny_setField_rec he₄ (by simp) fun h₅ he₅ hs₅ => ?_)
  replace hs₅ : Heap.SameBut it h₄ h₅ := hs₅
  replace he₅ : IsItemIterOut h₅ it d (i + 1) es.size ep es[i].key es[i].val hp.objs.size := he₅
  refine wpAny_bind (wpAny_setField_rec he₅ (by simp) fun h₆ he₆ hs₆ => ?_)
  replace hs₆ : Heap.SameBut it h₅ h₆ := hs₆
  replace he₆ : IsItemIterOut h₆ it d (i + 1) es.size ep es[i].key es[i].val hp.objs.size := he₆
  refine wpAny_bind (wpAny_letGo (wpAny_pure (wpAny_pure ⟨_, rfl, wpAny_pure (hQ h₆ he₆ ?_ ?_)⟩)))
  · exact hs₆.extBut _ _ (Nat.ne_of_gt hil) (hs₅.extBut _ _ (Nat.ne_of_gt hil) (hs₄.extBut _ _ (Nat.ne_of_gt hil) (hs₃.extBut _ _ (Nat.ne_of_gt hil) ht₂)))
  · exact fun b o hb e => hs₆.extBut b o hb (hs₅.extBut b o hb (hs₄.extBut b o hb (hs₃.extBut b o hb (hk₂ b o hb e))))

theorem items_stop {ok ov : Value} {Q : Option Value → Shared → Prop} (hh : A.handled = none) (hit : IsItemIter s.heap it d es.size es.size ep ok ov) (hm : RawDict s.heap d es ep)
    (hQ : ∀ h', Heap.ExtBut it s.heap h' → Q none { s with heap := h' }) : wpAny (model prog w) A (pyNext (.ref it)) Q E s := by
  obtain ⟨od, hod, hcd, hdd⟩ := hm
  have hT : s.TypeIs (.ref it) "dict_itemiterator" := ⟨_, hit, rfl⟩
  have hown : Builtin.Dict_items.ownsTuple "dict_itemiterator" = true := by decide
  unfold pyNext
  refine wpAny_bind (wpAny_attempt (wpAny_callSpecial?_slot (name := Str.ofString "__next__") hT F.slot_dict_itemiterator_next
    (wpAny_call_entry F.slot_dict_itemiterator_next hT F.entry_dict_itemiterator_next ?_ (F.args_dict_itemiterator_next_1 _))))
  refine wpAny_bind (wpAny_pure (wpAny_bind (wpAny_bind ?_)))
  first | refine wpAny_bind (wpAny_typeNameOfWhole_itemiter hT (wpAny_pure ?_)) | refine wpAny_bind (wpAny_typeNameOf_itemiter hT (wpAny_pure ?_))
  refine wpAny_bind (wpAny_fieldsOf hit rfl ?_)
  simp only [hown, if_true]
  show wpAny _ _ (if (Value.ref d == Value.none) = true then _ else _) _ _ s
  rw [if_neg (show ¬ ((Value.ref d == Value.none) = true) from Bool.false_ne_true)]
  refine wpAny_bind (wpAny_pure (wpAny_bind (wpAny_dictEntries hod hdd ?_)))
  rw [if_neg (by simp)]
  refine wpAny_bind (wpAny_pure (wpAny_bind (wpAny_dictEpoch hod hdd ?_)))
  rw [if_neg (by simp)]
  refine wpAny_pure ?_
  simp only [show ¬ ((es.size : Int) < 0) from by omega, if_false, Int.toNat_natCast, Array.getElem?_eq_none (Nat.le_refl es.size)]
  refine wpAny_bind ?_
  first | refine wpAny_bind (wpAny_typeNameOfWhole_itemiter hT (wpAny_pure ?_)) | refine wpAny_bind (wpAny_typeNameOf_itemiter hT (wpAny_pure ?_))
  show wpAny _ _ (setField (.ref it) 2 .none >>= _) _ _ s
  refine wpAny_bind (wpAny_setField hit rfl (by simp) ?_)
  show wpAny _ _ (newExc (.type "StopIteration") [] >>= _) _ _ _
  refine wpAny_bind ?_
  simp only [newExc, newTuple]
  refine wpAny_bind (wpAny_newObj_type ?_ (by size_fits))
  refine wpAny_bind (m := firstArgMember _ _) (wpAny_of_eq (a := Value.none) (by first | rfl | (simp only [firstArgMember]; rfl)) ?_)
  refine wpAny_newObj_type ?_ (by size_fits)
  simp only [raiseNew]
  refine wpAny_bind (wpAny_handled ?_)
  rw [show A.in1.handled = none from hh]
  refine wpAny_bind (wpAny_pure (wpAny_throw ?_))
  refine wpAny_bind (wpAny_isInstance (T := "StopIteration") (b := true) ⟨_, Heap.get?_push_size _ rfl, rfl⟩ isSubtype_stop ?_)
  exact wpAny_pure (hQ _ (((Heap.SameBut.update ..).extBut.push _).push _))

theorem values_next {e : DictEntry} {Q : Option Value → Shared → Prop} (hit : s.heap.IsValIter it d i es.size ep) (hm : RawDict s.heap d es ep) (hx : es[i]? = some e)
    (hQ : ∀ h', h'.IsValIter it d (i + 1) es.size ep → Heap.SameBut it s.heap h' → Q (some e.val) { s with heap := h' }) :
    wpAny (model prog w) A (pyNext (.ref it)) Q E s := by
  obtain ⟨o, ho, hc, hd⟩ := id hit
  obtain ⟨od, hod, hcd, hdd⟩ := hm
  have hown : Builtin.Dict_items.ownsTuple "dict_valueiterator" = false := by decide
  unfold pyNext
  refine wpAny_bind (wpAny_attempt (wpAny_callSpecial?_slot (name := Str.ofString "__next__") hit.typeIs F.slot_dict_valueiterator_next
    (wpAny_call_entry F.slot_dict_valueiterator_next hit.typeIs F.entry_dict_valueiterator_next ?_ (F.args_dict_valueiterator_next_1 _))))
  refine wpAny_bind (wpAny_pure (wpAny_bind (wpAny_bind ?_)))
  first | refine wpAny_bind (wpAny_typeNameOfWhole_valiter hit.typeIs (wpAny_pure ?_)) | refine wpAny_bind (wpAny_typeNameOf_valiter hit.typeIs (wpAny_pure ?_))
  refine wpAny_bind (wpAny_fieldsOf ho hd ?_)
  simp only [hown, Bool.false_eq_true, if_false]
  show wpAny _ _ (if (Value.ref d == Value.none) = true then _ else _) _ _ s
  rw [if_neg (show ¬ ((Value.ref d == Value.none) = true) from Bool.false_ne_true)]
  refine wpAny_bind (wpAny_pure (wpAny_bind (wpAny_dictEntries hod hdd ?_)))
  rw [if_neg (by simp)]
  refine wpAny_bind (wpAny_pure (wpAny_bind (wpAny_dictEpoch hod hdd ?_)))
  rw [if_neg (by simp)]
  refine wpAny_pure ?_
  obtain ⟨hlt, rfl⟩ := Array.getElem?_eq_some_iff.mp hx
  simp only [show ¬ ((i : Int) < 0) from by omega, if_false, Int.toNat_natCast, Array.getElem?_eq_getElem hlt]
  refine wpAny_bind ?_
  first | refine wpAny_bind (wpAny_typeNameOfWhole_valiter hit.typeIs (wpAny_pure ?_)) | refine wpAny_bind (wpAny_typeNameOf_valiter hit.typeIs (wpAny_pure ?_))
  refine wpAny_bind (wpAny_isOneOf_valiter hit.typeIs ?_)
  show wpAny _ _ (setField (.ref it) 1 (rawInt ((i : Int) + 1)) >>= _) _ _ s
  refine wpAny_bind (wpAny_setField ho hd (by simp) ?_)
  have hit' : (s.heap.update it (Obj.mapFields (·.setIfInBounds 1 (rawInt ((i : Int) + 1))))).IsValIter it d (i + 1) es.size ep :=
    ⟨_, Heap.get?_update_self _ ho (Obj.isFreed_of_fields (Obj.data_mapFields hd _)), (Obj.cls_mapFields ..).trans hc, by rw [Obj.data_mapFields hd]; simp [rawInt]⟩
  refine wpAny_bind (wpAny_holding ?_)
  refine wpAny_bind (wpAny_isOneOf_valiter (s := { s with heap := s.heap.update it (Obj.mapFields (·.setIfInBounds 1 (rawInt ((i : Int) + 1)))) }) hit'.typeIs ?_)
  refine wpAny_bind (wpAny_isOneOf_valiter (s := { s with heap := s.heap.update it (Obj.mapFields (·.setIfInBounds 1 (rawInt ((i : Int) + 1)))) }) hit'.typeIs ?_)
  show wpAny _ _ (pure es[i].val) _ _ _
  exact wpAny_pure (wpAny_pure ⟨_, rfl, wpAny_pure (hQ _ hit' (Heap.SameBut.update ..))⟩)

theorem values_stop {Q : Option Value → Shared → Prop} (hh : A.handled = none) (hit : s.heap.IsValIter it d es.size es.size ep) (hm : RawDict s.heap d es ep)
    (hQ : ∀ h', Heap.ExtBut it s.heap h' → Q none { s with heap := h' }) : wpAny (model prog w) A (pyNext (.ref it)) Q E s := by
  obtain ⟨o, ho, hc, hd⟩ := id hit
  obtain ⟨od, hod, hcd, hdd⟩ := hm
  have hown : Builtin.Dict_items.ownsTuple "dict_valueiterator" = false := by decide
  unfold pyNext
  refine wpAny_bind (wpAny_attempt (wpAny_callSpecial?_slot (name := Str.ofString "__next__") hit.typeIs F.slot_dict_valueiterator_next
    (wpAny_call_entry F.slot_dict_valueiterator_next hit.typeIs F.entry_dict_valueiterator_next ?_ (F.args_dict_valueiterator_next_1 _))))
  refine wpAny_bind (wpAny_pure (wpAny_bind (wpAny_bind ?_)))
  first | refine wpAny_bind (wpAny_typeNameOfWhole_valiter hit.typeIs (wpAny_pure ?_)) | refine wpAny_bind (wpAny_typeNameOf_valiter hit.typeIs (wpAny_pure ?_))
  refine wpAny_bind (wpAny_fieldsOf ho hd ?_)
  simp only [hown, Bool.false_eq_true, if_false]
  show wpAny _ _ (if (Value.ref d == Value.none) = true then _ else _) _ _ s
  rw [if_neg (show ¬ ((Value.ref d == Value.none) = true) from Bool.false_ne_true)]
  refine wpAny_bind (wpAny_pure (wpAny_bind (wpAny_dictEntries hod hdd ?_)))
  rw [if_neg (by simp)]
  refine wpAny_bind (wpAny_pure (wpAny_bind (wpAny_dictEpoch hod hdd ?_)))
  rw [if_neg (by simp)]
  refine wpAny_pure ?_
  simp only [show ¬ ((es.size : Int) < 0) from by omega, if_false, Int.toNat_natCast, Array.getElem?_eq_none (Nat.le_refl es.size)]
  refine wpAny_bind ?_
  first | refine wpAny_bind (wpAny_typeNameOfWhole_valiter hit.typeIs (wpAny_pure ?_)) | refine wpAny_bind (wpAny_typeNameOf_valiter hit.typeIs (wpAny_pure ?_))
  show wpAny _ _ (setField (.ref it) 0 .none >>= _) _ _ s
  refine wpAny_bind (wpAny_setField ho hd (by simp) ?_)
  show wpAny _ _ (newExc (.type "StopIteration") [] >>= _) _ _ _
  refine wpAny_bind ?_
  simp only [newExc, newTuple]
  refine wpAny_bind (wpAny_newObj_type ?_ (by size_fits))
  refine wpAny_bind (m := firstArgMember _ _) (wpAny_of_eq (a := Value.none) (by first | rfl | (simp only [firstArgMember]; rfl)) ?_)
  refine wpAny_newObj_type ?_ (by size_fits)
  simp only [raiseNew]
  refine wpAny_bind (wpAny_handled ?_)
  rw [show A.in1.handled = none from hh]
  refine wpAny_bind (wpAny_pure (wpAny_throw ?_))
  refine wpAny_bind (wpAny_isInstance (T := "StopIteration") (b := true) ⟨_, Heap.get?_push_size _ rfl, rfl⟩ isSubtype_stop ?_)
  exact wpAny_pure (hQ _ (((Heap.SameBut.update ..).extBut.push _).push _))

theorem FIter.items (hh : A.handled = none) (elts : List Expr) (x1 : Nat) (pos : Pos) (I d : Addr) (es : Array DictEntry) (ep : Nat) :
    FIter prog w A (.Tuple elts x1 pos) I es.size (fun i v h => ∃ T e, v = .ref T ∧ es[i]? = some e ∧ h.IsTuple T #[e.key, e.val]) (fun i h => ∃ ok ov, IsItemIter h I d i es.size ep ok ov) (fun h => RawDict h d es ep) where
  item := fun i s N Q E hi ⟨ok, ov, hit⟩ hm hQ => by
    have hx : es[i]? = some es[i] := by simp [hi]
    refine items_next hit hm hx fun h₁ hout ht hk => ?_
    refine wpAny_letOwnedTupleGo_items hout fun h₂ hit₂ hs₂ => ?_
    have hIlt : I < s.heap.objs.size := Heap.lt_size hit
    refine hQ _ h₂ s.toks ⟨_, _, rfl, hx, ⟨_, hs₂.extBut _ _ (Nat.ne_of_gt hIlt) ht, rfl, _, rfl⟩⟩ ⟨_, _, hit₂⟩ fun b o hb e => hs₂.extBut b o hb (hk b o hb e)
  done := fun s Q E ⟨ok, ov, hit⟩ hm hQ => items_stop hh hit hm fun h' hx => hQ h' s.toks hx
  obj := fun i h ⟨ok, ov, hit⟩ => ⟨_, hit, fun _ e => ⟨_, _, e⟩⟩

theorem let_go_values {x : Str} {px : Pos} {I : Addr} {v : Value} {Q : Unit → Shared → Prop} (h : Q () s) : wpAny (model prog w) A (letOwnedTupleGo (.Name x px) (.ref I) v) Q E s := by
  unfold letOwnedTupleGo
  first | exact wpAny_pure h | (cases v <;> exact wpAny_pure h)

theorem FIter.values (hh : A.handled = none) (x : Str) (px : Pos) (I d : Addr) (es : Array DictEntry) (ep : Nat) :
    FIter prog w A (.Name x px) I es.size (fun i v _ => ∃ e, es[i]? = some e ∧ v = e.val) (fun i h => h.IsValIter I d i es.size ep) (fun h => RawDict h d es ep) where
  item := fun i s N Q E hi hit hm hQ => by
    have hx : es[i]? = some es[i] := by simp [hi]
    refine values_next hit hm hx fun h₁ hit₁ hs₁ => ?_
    exact let_go_values (hQ _ h₁ s.toks ⟨_, hx, rfl⟩ hit₁ hs₁.extBut)
  done := fun s Q E hit hm hQ => values_stop hh hit hm fun h' hx => hQ h' s.toks hx
  obj := fun i h ⟨o, ho, hc, hd⟩ => ⟨o, ho, fun _ e => ⟨o, e, hc, hd⟩⟩
end
end Mine
end

section
open PySem PySem.Spec PySem.Calls PySem.W PyProof.Rows
open Sem (wp)
set_option Elab.async false
set_option maxRecDepth 100000
set_option maxHeartbeats 4000000
namespace Mine

section
variable {prog : Program} {w : World} {A : Around} {E : Value → Shared → Prop} {s : Shared} {env : Env} {h₀ : Heap} {R : Result → Shared → Prop} {L : Addr} {m : Str → Option Value}

/-- a row of callers: one call of each of these places -/
def RowObj (prog : Program) (w : World) (P : Str) (led : List (Addr × Obj)) (o : Obj) (ks : List Int) : Prop :=
  ∃ es ep xs, o.ExactDict ∧ o.data = .dict es ep ∧ es.toList = List.map (entryOfKey (pkKind P prog w)) xs ∧ xs.map (·.1) = ks ∧ ks.Nodup ∧ ∀ x ∈ xs, (∃ t₁ t₂ t₃, (x.2.1, pk P x.1 t₁ t₂ t₃) ∈ led) ∧ ∃ t, x.2.2 = .int 1 t

def Row (prog : Program) (w : World) (P : Str) (led : List (Addr × Obj)) (d : Addr) (ks : List Int) : Prop :=
  (d == sysModules) = false ∧ ∃ o, (d, o) ∈ led ∧ RowObj prog w P led o ks

variable {P : Str} {led led' : List (Addr × Obj)} {o : Obj} {ks : List Int} {d : Addr}

theorem RowObj.mono (h : RowObj prog w P led o ks) (hs : ∀ p ∈ led, p ∈ led') : RowObj prog w P led' o ks := by
  obtain ⟨es, ep, xs, h1, h2, h3, h4, h5, h6⟩ := h
  refine ⟨es, ep, xs, h1, h2, h3, h4, h5, fun x hx => ?_⟩
  obtain ⟨⟨t₁, t₂, t₃, hm⟩, ht⟩ := h6 x hx
  exact ⟨⟨t₁, t₂, t₃, hs _ hm⟩, ht⟩
theorem Row.mono (h : Row prog w P led d ks) (hs : ∀ p ∈ led, p ∈ led') : Row prog w P led' d ks :=
  let ⟨h1, o, hm, hr⟩ := h; ⟨h1, o, hs _ hm, hr.mono hs⟩
theorem RowObj.nil {K : Type} [DecidableEq K] {knd : KeyKind prog w K} (h : o.IsDictOf knd []) : RowObj prog w P led o [] := by
  obtain ⟨es, ep, hc, hdat, _, hp, _⟩ := h
  have he : es.toList = [] := List.length_eq_zero_iff.mp hp.length
  exact ⟨es, ep, [], hc, hdat, he, rfl, List.nodup_nil, fun _ hx => nomatch hx⟩
theorem RowObj.dictOfH {h : Heap} {news : List (Addr × Obj)} (r : RowObj prog w P led o ks) (ho : h.get? d = some o) (N : News h₀ L h news) (hs : ∀ p ∈ led, p ∈ news) :
    ∃ xs, h.DictOfH (pkKind P prog w) d xs ∧ xs.map (·.1) = ks ∧ ∀ x ∈ xs, (∃ t₁ t₂ t₃, (x.2.1, pk P x.1 t₁ t₂ t₃) ∈ led) ∧ ∃ t, x.2.2 = .int 1 t := by
  obtain ⟨es, ep, xs, h1, h2, h3, h4, h5, h6⟩ := r
  refine ⟨xs, ⟨o, es, ep, ho, h1, h2, h3, fun x hx => ?_, h4 ▸ h5⟩, h4, h6⟩
  obtain ⟨⟨t₁, t₂, t₃, hm⟩, _⟩ := h6 x hx
  exact ⟨t₁, t₂, t₃, (N _ (hs _ hm)).1⟩
theorem RowObj.raw {h : Heap} (r : RowObj prog w P led o ks) (ho : h.get? d = some o) : ∃ es ep, RawDict h d es ep ∧ o.data = .dict es ep ∧ o.cls = .type "dict" := by
  obtain ⟨es, ep, xs, h1, h2, _⟩ := r
  exact ⟨es, ep, ⟨o, ho, h1.1, h2⟩, h2, h1.1⟩
theorem atKey_none {xs : List (Int × Addr × Value)} {k : Int} (h : k ∉ xs.map (·.1)) : atKey xs k = none :=
  atKey_none_of_get fun j p hj => h (List.mem_map.mpr ⟨(k, p), List.mem_of_getElem? hj, rfl⟩)

theorem row_set {a : Addr} {k : Int} {t t₁ t₂ t₃ : Tok} {rest : List (Addr × Obj)} {Q : Unit → Shared → Prop} (hu : A.in1.units < cLine)
    (F : Fr h₀ L s.heap m) (N : News h₀ L s.heap ((d, o) :: rest)) (hap : ∀ p ∈ rest, p.1 ≠ d) (r : RowObj prog w P led o ks) (hs : ∀ p ∈ led, p ∈ rest) (ha : (a, pk P k t₁ t₂ t₃) ∈ led) (hk : k ∉ ks) (hsz : ks.length ≤ 64)
    (h : ∀ h' o', Fr h₀ L h' m → News h₀ L h' ((d, o') :: rest) → RowObj prog w P led o' (ks ++ [k]) → Q () { s with heap := h', toks := s.toks + 4 }) :
    wpAny (model prog w) A (setItem (.ref d) (.ref a) (.int 1 t)) Q E s := by
  obtain ⟨xs, hd, hx, hall⟩ := r.dictOfH (N _ (.head _)).1 N (fun p hp => .tail _ (hs p hp))
  have hl : xs.length = ks.length := by rw [← hx, List.length_map]
  refine wpAny_setItem_heap (knd := pkKind P prog w) hu (k := k) ⟨t₁, t₂, t₃, (N _ (.tail _ (hs _ ha))).1⟩ hd (fun h' hd' hs' => ?_) (by rw [sizeLine_eq]; omega)
  obtain ⟨o', es', ep', ho', hc', hdat', he', _, hn'⟩ := hd'
  have z := N (d, o) (.head _)
  have hnk : atKey xs k = none := atKey_none (hx ▸ hk)
  rw [storedH_new hnk] at he' hn'
  refine h h' o' (F.change hs' z.2.1 z.2.2) (fun p hp => ?_) ⟨es', ep', _, hc', hdat', he', by rw [List.map_append, hx]; rfl, by rw [List.map_append, hx] at hn'; exact hn', fun x hx' => ?_⟩
  · rcases List.mem_cons.mp hp with rfl | hp
    · exact ⟨ho', z.2⟩
    · exact ⟨hs'.extBut _ _ (hap p hp) (N p (.tail _ hp)).1, (N p (.tail _ hp)).2⟩
  · rcases List.mem_append.mp hx' with hx' | hx'
    · exact hall x hx'
    · rw [List.mem_singleton.mp hx']
      exact ⟨⟨t₁, t₂, t₃, ha⟩, t, rfl⟩

theorem row_in {a : Addr} {k : Int} {t₁ t₂ t₃ : Tok} {news : List (Addr × Obj)} {Q : Value → Shared → Prop} (hu : A.in1.units < cLine) (hd : (d == sysModules) = false)
    (N : News h₀ L s.heap news) (hm : (d, o) ∈ news) (r : RowObj prog w P led o ks) (hs : ∀ p ∈ led, p ∈ news) (ha : (a, pk P k t₁ t₂ t₃) ∈ news) (hk : k ∉ ks)
    (h : Q (.bool false) { s with toks := s.toks + 4 }) :
    wpAny (model prog w) A (compareOp .In (.ref a) (.ref d)) Q E s := by
  obtain ⟨xs, hd', hx, hall⟩ := r.dictOfH (N _ hm).1 N hs
  refine wpAny_in_heap (knd := pkKind P prog w) hu (k := k) ⟨t₁, t₂, t₃, (N _ ha).1⟩ hd hd' ?_
  rw [atKey_none (hx ▸ hk)]
  exact h

theorem getMethod_row {name : Str} {id : String} {pl : Sem Bool} {Q : Value × List Value → Shared → Prop} (slot : Slot "dict" name id) (hty : typeOf (.builtin id) = pure (.type "method_descriptor"))
    (ho : s.heap.get? d = some o) (hc : o.ExactDict) (h : Q (.builtin id, [.ref d]) s) : wpAny (model prog w) A (getMethod (.ref d) name pl) Q E s :=
  getMethod_builtin (⟨o, ho, hc.1⟩ : s.TypeIs (.ref d) "dict") PySem.F.plainAttrs_dict slot hty (fun b e => by injection e with e; subst e; exact ⟨o, ho, hc.2.1⟩) h

theorem for_items {elts : List Expr} {x1 : Nat} {pos : Pos} {body : List Stmt} {v d : Addr} {es : Array DictEntry} {ep : Nat} {m₀ : Str → Option Value} {news₀ : List (Addr × Obj)} (hh : A.handled = none)
    (F : Fr h₀ env.locals s.heap m₀) (N₀ : News h₀ env.locals s.heap news₀) (hv : s.heap.get? v = some { cls := .type "dict_items", data := .fields #[.ref d] }) (hm : RawDict s.heap d es ep)
    (J : Nat → (Str → Option Value) → List (Addr × Obj) → Prop) (hj : J 0 m₀ news₀)
    (hok : ∀ i m news h, J i m news → Fr h₀ env.locals h m → News h₀ env.locals h news → RawDict h d es ep)
    (turn : ∀ I i e T m news h tk io, J i m news → es[i]? = some e → h.IsTuple T #[e.key, e.val] → Fr h₀ env.locals h m → News h₀ env.locals h ((I, io) :: news) → (∀ p ∈ news, p.1 ≠ I) →
      ∀ E', wpAny (model prog w) A (assign (.Tuple elts x1 pos) env (.ref T)) (fun _ s₂ => wpAny (model prog w) A (execs body env) (TurnEnd h₀ env.locals (J (i + 1)) R I io { s with heap := h, toks := tk }) E' s₂) E' { s with heap := h, toks := tk })
    (done : ∀ m news h tk, J es.size m news → Fr h₀ env.locals h m → News h₀ env.locals h news → R (.ok .next) { s with heap := h, toks := tk }) :
    wpAny (model prog w) A (pyIter (.ref v)) (fun it s₂ => codeAny (model prog w) A (.forLoop (.Tuple elts x1 pos) it body [] env) R s₂) E s := by
  refine items_iter hv hm ?_
  refine for_iter (FIter.items hh elts x1 pos _ d es ep) J (F.push _) (fun p hp => ⟨Heap.get?_push_of_some _ (N₀ p hp).1, (N₀ p hp).2⟩) ⟨_, _, Heap.get?_push_size _ rfl⟩
    ⟨Nat.ne_of_gt F.ns.lt, next_is_new F⟩ (fun p hp => Nat.ne_of_lt (Heap.lt_size (N₀ p hp).1)) hj hok ?_ done
  rintro i v m news h tk io hJ hi ⟨T, e, rfl, he, hT⟩ F N off E'
  exact turn _ i e T m news h tk io hJ he hT F N off E'

theorem for_values {x : Str} {px : Pos} {body : List Stmt} {v d : Addr} {es : Array DictEntry} {ep : Nat} {m₀ : Str → Option Value} {news₀ : List (Addr × Obj)} (hh : A.handled = none)
    (F : Fr h₀ env.locals s.heap m₀) (N₀ : News h₀ env.locals s.heap news₀) (hv : s.heap.get? v = some { cls := .type "dict_values", data := .fields #[.ref d] }) (hm : RawDict s.heap d es ep)
    (J : Nat → (Str → Option Value) → List (Addr × Obj) → Prop) (hj : J 0 m₀ news₀)
    (hok : ∀ i m news h, J i m news → Fr h₀ env.locals h m → News h₀ env.locals h news → RawDict h d es ep)
    (turn : ∀ I i e m news h tk io, J i m news → es[i]? = some e → Fr h₀ env.locals h m → News h₀ env.locals h ((I, io) :: news) → (∀ p ∈ news, p.1 ≠ I) →
      ∀ E', wpAny (model prog w) A (assign (.Name x px) env e.val) (fun _ s₂ => wpAny (model prog w) A (execs body env) (TurnEnd h₀ env.locals (J (i + 1)) R I io { s with heap := h, toks := tk }) E' s₂) E' { s with heap := h, toks := tk })
    (done : ∀ m news h tk, J es.size m news → Fr h₀ env.locals h m → News h₀ env.locals h news → R (.ok .next) { s with heap := h, toks := tk }) :
    wpAny (model prog w) A (pyIter (.ref v)) (fun it s₂ => codeAny (model prog w) A (.forLoop (.Name x px) it body [] env) R s₂) E s := by
  refine values_iter hv hm ?_
  refine for_iter (FIter.values hh x px _ d es ep) J (F.push _) (fun p hp => ⟨Heap.get?_push_of_some _ (N₀ p hp).1, (N₀ p hp).2⟩) ⟨_, Heap.get?_push_size _ rfl, rfl, rfl⟩
    ⟨Nat.ne_of_gt F.ns.lt, next_is_new F⟩ (fun p hp => Nat.ne_of_lt (Heap.lt_size (N₀ p hp).1)) hj hok ?_ done
  rintro i v m news h tk io hJ hi ⟨e, he, rfl⟩ F N off E'
  exact turn _ i e m news h tk io hJ he F N off E'

theorem dict_one {kx vx : PySem.Expr} {pos : Pos} {news : List (Addr × Obj)} {Q : Value → Shared → Prop} (F : Fr h₀ L s.heap m) (N : News h₀ L s.heap news) (hbig : h₀.NoLimit)
    (h : ∀ d h', Fr h₀ L h' m → News h₀ L h' ((d, { cls := .type "dict", data := .dict #[] }) :: news) → (∀ p ∈ news, p.1 < d) → (d == sysModules) = false →
      wpAny (model prog w) A (eval kx env) (fun kv s₁ => wpAny (model prog w) A (eval vx env) (fun vv s₂ => wpAny (model prog w) A (dictSet d kv vv) (fun _ s₃ => Q (.ref d) s₃) E s₂) E s₁) E { s with heap := h' }) :
    wpAny (model prog w) A (eval (.Dict [some kx] [vx] pos) env) Q E s := by
  refine wpAny_Dict_any (by rfl) (by rfl) (by simp) (by simp) ?_
  show wpAny _ _ (evalPairs [(eval kx env, do let x ← eval vx env; standAt pos; pure x)]) _ _ _
  refine evalPairs_cons (wpAny_mono (h s.heap.objs.size _ (F.push _) (News.push F N _ rfl) (fun p hp => Heap.lt_size (N p hp).1) (F.notModules (modules_low hbig))) (fun kv s₁ h₁ => ?_) fun _ _ e => e)
  refine wpAny_bind (wpAny_mono h₁ (fun vv s₂ h₂ => ?_) fun _ _ e => e)
  refine wpAny_bind (wpAny_standAt (wpAny_pure (evalPairs_nil ?_)))
  unfold storeAll
  rw [List.forIn_cons]
  refine wpAny_bind (wpAny_bind (wpAny_mono h₂ (fun _ s₃ h₃ => wpAny_pure ?_) fun _ _ e => e))
  show wpAny _ _ (forIn ([] : List (Value × Value)) PUnit.unit _) _ _ _
  rw [List.forIn_nil]
  exact wpAny_pure h₃

theorem row_one {a : Addr} {k : Int} {t t₁ t₂ t₃ : Tok} {news rest : List (Addr × Obj)} {Q : Unit → Shared → Prop} (hu : A.units < cLine)
    (F : Fr h₀ L s.heap m) (N : News h₀ L s.heap news) (hd : (d, { cls := .type "dict", data := .dict #[] }) ∈ news) (hsub : ∀ p ∈ rest, p ∈ news) (hap : ∀ p ∈ rest, p.1 ≠ d) (ha : (a, pk P k t₁ t₂ t₃) ∈ rest)
    (h : ∀ h' o', Fr h₀ L h' m → News h₀ L h' ((d, o') :: rest) → RowObj prog w P rest o' [k] → Q () { s with heap := h', toks := s.toks + 4 }) :
    wpAny (model prog w) A (dictSet d (.ref a) (.int 1 t)) Q E s := by
  have z := N _ hd
  have hm : s.heap.DictOfH (pkKind P prog w) d [] := ⟨_, #[], 0, z.1, ⟨rfl, rfl, rfl⟩, rfl, rfl, (fun _ hx => nomatch hx), List.nodup_nil⟩
  refine wpAny_dictSet_heap (knd := pkKind P prog w) hu (k := k) ⟨t₁, t₂, t₃, (N _ (hsub _ ha)).1⟩ hm (fun h' hd' hs' => ?_) (by rw [sizeLine_eq]; simp)
  obtain ⟨o', es', ep', ho', hc', hdat', he', _, hn'⟩ := hd'
  refine h h' o' (F.change hs' z.2.1 z.2.2) (fun p hp => ?_) ⟨es', ep', _, hc', hdat', he', rfl, by simp, fun x hx' => ?_⟩
  · rcases List.mem_cons.mp hp with rfl | hp
    · exact ⟨ho', z.2⟩
    · exact ⟨hs'.extBut _ _ (hap p hp) (N p (hsub p hp)).1, (N p (hsub p hp)).2⟩
  · have e : x = (k, a, Value.int 1 t) := by simpa [storedH, atKey] using hx'
    rw [e]
    exact ⟨⟨t₁, t₂, t₃, ha⟩, t, rfl⟩

theorem item_at {value slice : Expr} {D : Addr} {its : Array Value} {n : Nat} {k : Int} {t : Tok} {x : Value} {news : List (Addr × Obj)} {Q : Value → Shared → Prop} (N : News h₀ L s.heap news) (hm : (D, W.listOf its n) ∈ news)
    (h0 : 0 ≤ k) (h1 : k < 64) (hx : its[k.toNat]? = some x) (h : Q x s)
    (hs : subscripted slice false (.ref D) (.int k t) = operate [.ref D, .int k t] (getItem (.ref D) (.int k t)) := by with_unfolding_all rfl) (hg : ∀ r, letTemporaryGo value (.ref D) r = pure () := by intro _; with_unfolding_all rfl) :
    wpAny (model prog w) A (subscriptTail value slice (.ref D) (.int k t)) Q E s := by
  have hl : s.heap.IsList D its := ⟨_, (N _ hm).1, rfl, _, rfl⟩
  exact subscriptTail_builtin hl.typeIs slot_list_getitem.lookup (wpAny_getItem_list hl h0 (by omega) hx h) hs hg

theorem set_at {D : Addr} {its : Array Value} {n : Nat} {k : Int} {t : Tok} {v : Value} {pre post : List (Addr × Obj)} {Q : Unit → Shared → Prop} (F : Fr h₀ L s.heap m) (N : News h₀ L s.heap (pre ++ (D, W.listOf its n) :: post))
    (a : ∀ p ∈ pre, p.1 ≠ D) (b : ∀ p ∈ post, p.1 ≠ D) (h0 : 0 ≤ k) (h1 : k < (its.size : Int)) (h2 : its.size ≤ 64)
    (h : ∀ h', Fr h₀ L h' m → News h₀ L h' (pre ++ (D, W.listOf (its.setIfInBounds k.toNat v) n) :: post) → Q () { s with heap := h' }) :
    wpAny (model prog w) A (setItem (.ref D) (.int k t) v) Q E s := by
  have z := N (D, W.listOf its n) (List.mem_append.mpr (.inr (.head _)))
  refine ki_setAt z.1 h0 (by omega) h1 (h _ (F.change (Heap.SameBut.update ..) z.2.1 z.2.2) (ki_turn _ N a b rfl ?_))
  rw [if_pos (by simp)]

/-- a frame's own target: two names -/
theorem asg_pairF {a b : Str} {pa pb tp : Pos} {kk : Nat} {T : Addr} {x y : Value} {news : List (Addr × Obj)} {Q : Unit → Shared → Prop} (hh : A.handled = none) (hT : s.heap.IsTuple T #[x, y])
    (ha : env.kindOf a = some .local) (hb : env.kindOf b = some .local) (hp : (env.scope.kind == .class || (env.scope.kind == .module && env.locals != env.globals)) = false)
    (F : Fr h₀ env.locals s.heap m) (N : News h₀ env.locals s.heap news)
    (k : ∀ h' tk, Fr h₀ env.locals h' (fun z => if z = b then some y else if z = a then some x else m z) → News h₀ env.locals h' news → Q () { s with heap := h', toks := tk }) :
    wpAny (model prog w) A (assign (.Tuple [.Name a pa, .Name b pb] kk tp) env (.ref T)) Q E s := by
  refine kcp_assign hh hT ha hb hp F.ns fun h' tk hn' hs' => k h' tk ⟨hn', fun c o e => hs' c o (fun q => ?_) (F.keep c o e), F.above⟩ fun p hp => ⟨hs' _ _ (N p hp).2.1 (N p hp).1, (N p hp).2⟩
  exact absurd (Heap.lt_size e) (Nat.not_lt.mpr (by rw [q]; exact F.above))
end
end Mine
end

section
open PySem PySem.Spec PySem.Calls PySem.W PyProof.Rows
set_option Elab.async false
set_option maxRecDepth 100000
set_option maxHeartbeats 8000000
namespace Mine
local macro_rules | `(tactic| walk_at "S") => `(tactic| repeat' (first | (k_unfold; (try dsimp only)) | (k_end; wrow_close) | ((fail_if_success (with_reducible show wpAny _ _ (exec (Stmt.For _ _ _ _ _) _) _ _ _)); walk1) | (dsimp only; (fail_if_success (with_reducible show wpAny _ _ (exec (Stmt.For _ _ _ _ _) _) _ _ _)); walk1) | (leave1; walk_say "STEP leave1"; try dsimp only) | fail "no step"))
local macro_rules | `(tactic| k_all) => `(tactic| assumption)
local macro_rules | `(tactic| size_fits) => `(tactic| with_reducible assumption)

local macro_rules | `(tactic| walk_at "led") => `(tactic| ((try simp only [List.cons_append, List.nil_append, List.append_assoc, List.mem_cons, List.mem_append] at *); (repeat' (first | (rcases ‹_ ∨ _› with hp | hp)));  all_goals first | (simp only [*, true_or, or_true]; done) | (simp_all; done)))
theorem ties_pack {g h : Heap} {L Dy Dx it lt : Addr} {oy ox io lo : Obj} {tl news : List (Addr × Obj)} (N : News g L h ((Dy, oy) :: (Dx, ox) :: (it, io) :: (lt, lo) :: (tl ++ news))) : News g L h ((it, io) :: (lt, lo) :: (((Dy, oy) :: tl) ++ news)) := fun p hp => N p (by
  simp only [List.cons_append, List.mem_cons, List.mem_append] at hp ⊢
  rcases hp with hp | hp | hp | hp <;> simp only [hp, true_or, or_true])

theorem ties_spec (w : World) (l : Addr) (vs : List Value) (ns : List Int) (hi : IntsAre vs ns) (h63 : ns.length ≤ 63) (news : List (Addr × Obj)) : Spec 20 w 53 [.ref l] news (fun h => h.IsList l vs.toArray)
    (fun r tl => ∃ rt lt its n N tm, r = .ref rt ∧ (rt, ({ cls := .type "tuple", data := .seq #[.ref lt, .int N tm] } : Obj)) ∈ tl ∧ (lt, W.listOf its n) ∈ tl ∧ N = 1 + min 15 (ns.length : Int) ∧ PairsAt tl its.toList (tiesFrom 0 N (ns.take 15)) ∧ its.size ≤ 16) := by
  w_top off
  unfold Spec
  k_fill
  intro mean mg mb dp un gd cn cs a ccd cl outer A₀ base h₀ L m s Q E B F X N T hk hl hdp hun hret
  refine wpAny_call ?_
  k_dflt ktr_enter
  rename_i g' L' h' FG' F' N' B' X' T'
  have hl' : g'.IsList l vs.toArray := hl.at (FG'.keep l)
  clear F N B X T hl
  walk_at "S"
  refine wpAny_For ?_
  walk_at "S"
  rename_i H1 tk1 H2 tk0 D2 H3 lA lt H4 lB D1 H5 lC H6 H7 H8 H9 Ls ws H10 F1 N1 hI1 hC1 hL1 lD
  have hws : ws.length = (ns.take 15).length := IntsAre.length hI1
  have hln : ∀ p ∈ news, p.1 < lt := fun p hp => Nat.lt_trans (lA p hp) lB.1
  generalize hN : (1 + if (ns.length : Int) < 15 then (ns.length : Int) else 15) = N at F1 N1
  refine for_list (news₀ := (lt, W.listOf #[.ref D2] 0) :: ([(Ls, W.listOf ws.toArray 0), (D2, tup2 0 (tk0 + 1) N tk1)] ++ news)) (m₀ := _) (J := fun i m nw => ∃ tlo thi tm its n tl, m "low" = some (.int (endFrom 0 N ((ns.take 15).take i)).1 tlo) ∧ m "high" = some (.int (endFrom 0 N ((ns.take 15).take i)).2 thi) ∧
    m "ties" = some (.ref lt) ∧ m "many" = some (.int N tm) ∧ nw = (lt, W.listOf its n) :: (tl ++ news) ∧ (∀ p ∈ tl ++ news, p.1 ≠ lt) ∧ (Ls, W.listOf ws.toArray 0) ∈ tl ∧
    PairsAt tl its.toList (tiesFrom 0 N ((ns.take 15).take i)) ∧ i ≤ ws.length ∧ its.size = i + 1) (ws.length) (by rfl) F1 (fun p hp => N1 p ?_) ?_ ?_ ?_ ?_
  rotate_left
  · refine ⟨_, _, _, _, _, [(Ls, W.listOf ws.toArray 0), (D2, tup2 0 (tk0 + 1) N tk1)], rfl, rfl, rfl, rfl, rfl, ?_, .head _, .cons (.tail _ (.head _)) .nil, Nat.zero_le _, rfl⟩
    intro p hp
    simp only [List.cons_append, List.nil_append, List.mem_cons] at hp
    rcases hp with rfl | rfl | hp
    · exact Nat.ne_of_gt lD.2.1
    · exact Nat.ne_of_lt lB.1
    · exact Nat.ne_of_lt (hln p hp)
  · rintro i m1 nw h ⟨tlo, thi, tm, itr, n, tl, e1, e2, e3, e4, rfl, hr, hLs, hP, hiw, hsz⟩ F2 N2
    exact ⟨ws, ⟨_, (N2 (Ls, _) (List.mem_cons_of_mem _ (List.mem_append_left _ hLs))).1, rfl, _, rfl⟩, hiw, Nat.le_refl _⟩
  · rintro i v m1 nw h tk it io its ⟨tlo, thi, tm, itr, n, tl, e1, e2, e3, e4, rfl, hr, hLs, hP, hiw, hsz⟩ F2 N2 hoff hioc hlist hv E'
    have hnx : ∃ k t, v = .int k t ∧ (ns.take 15)[i]? = some k ∧ i < ws.length := by
      obtain ⟨o, ho, _, _, hd⟩ := hlist
      have h2 := (N2 (Ls, _) (List.mem_cons_of_mem _ (List.mem_cons_of_mem _ (List.mem_append_left _ hLs)))).1
      rw [ho] at h2
      have h3 := Option.some.inj h2
      rw [h3] at hd
      injection hd with h4 _
      have h5 : its = ws := by simpa using h4.symm
      subst h5
      have hlt : i < its.length := (List.getElem?_eq_some_iff.mp hv).1
      have hlt' : i < (ns.take 15).length := by omega
      obtain ⟨t, hx⟩ := hI1.get i _ (List.getElem?_eq_getElem hlt')
      rw [hx] at hv
      exact ⟨_, _, (Option.some.inj hv).symm, List.getElem?_eq_getElem hlt', hlt⟩
    obtain ⟨k, tk', rfl, hk', hiw'⟩ := hnx
    have F3 := fr_of F2 (pin (pin (pin (pin (fun _ => rfl) e4) e3) e2) e1)
    clear F2 F1 N1
    have hne : it ≠ lt := fun e => hoff _ (.head _) e.symm
    have hzz : itr.size ≤ sizeLine := by rw [sizeLine_eq]; have : (ns.take 15).length ≤ 15 := by simp; omega
                                         omega
    have hofft : ∀ p ∈ tl ++ news, p.1 ≠ it := fun p hp => hoff p (.tail _ hp)
    have htake : (ns.take 15).take (i + 1) = (ns.take 15).take i ++ [k] := by rw [List.take_add_one, hk']; rfl
    rw [htake, tiesFrom_snoc, endFrom_snoc]
    refine wpAny_assign_Name ?_
    walk_at "S"
    all_goals (
      rename_i ha Dx hx1 lx hx2 hx3 hx4 tkz Dy hx5 ly hx6 F9 N9
      first | (have hb : k.fmod 2 = 0 := ha; simp only [if_pos hb]) | (have hb : ¬ k.fmod 2 = 0 := ha; simp only [if_neg hb])
      refine ⟨_, _, _, _, rfl, F9, ties_pack N9, ?_, _, _, _, _, _, _, rfl, rfl, rfl, rfl, rfl, ?_, .tail _ hLs, ?_, hiw', ?_⟩
      · intro p hp
        simp only [List.cons_append, List.mem_cons] at hp
        rcases hp with rfl | rfl | hp
        · exact Ne.symm hne
        · exact Nat.ne_of_gt ly.2.1
        · exact hofft p hp
      · intro p hp
        simp only [List.cons_append, List.mem_cons] at hp
        rcases hp with rfl | hp
        · exact Nat.ne_of_gt ly.2.2.1
        · exact hr p hp
      · rw [Array.toList_push]
        exact (hP.mono fun p hp => .tail _ hp).append (.cons (.head _) .nil)
      · rw [Array.size_push, hsz])
  · rintro i m1 nw h tk its ⟨tlo, thi, tm, itr, n, tl, e1, e2, e3, e4, rfl, hr, hLs, hP, hiw, hsz⟩ F2 N2 hlist hi2
    have hiw2 : i = ws.length := by
      obtain ⟨o, ho, _, _, hd⟩ := hlist
      have h2 := (N2 (Ls, _) (List.mem_cons_of_mem _ (List.mem_append_left _ hLs))).1
      rw [ho] at h2
      have h3 := Option.some.inj h2
      rw [h3] at hd
      injection hd with h4 _
      have h5 : its = ws := by simpa using h4.symm
      rw [hi2, h5]
    have F3 := fr_of F2 (pin (pin (pin (pin (fun _ => rfl) e4) e3) e2) e1)
    clear F2 F1 N1
    walk_at "S"
    rename_i tkz Dz hz F9 N9 lz


    refine leaveK_ F9 N9 fun kF kN => ?_
    have htk : (ns.take 15).take i = ns.take 15 := List.take_of_length_le (by omega)
    rw [htk] at hP
    have h15 : (ns.take 15).length ≤ 15 := by simp; omega
    refine hret _ ((Dz, _) :: (lt, W.listOf itr n) :: tl) _ _ kF kN ⟨Dz, lt, itr, n, N, tm, rfl, .head _, .tail _ (.head _), ?_, hP.mono fun p hp => .tail _ (.tail _ hp), by omega⟩
    rw [← hN]
    split <;> omega
  · simp only [List.cons_append, List.nil_append, List.mem_cons] at hp ⊢
    rcases hp with hp | hp | hp | hp <;> simp only [hp, true_or, or_true]
end Mine
end

section
open PySem PySem.Spec PySem.Calls PySem.W PyProof.Rows PyProof.Rows.LCg
set_option Elab.async false
set_option maxRecDepth 100000
set_option maxHeartbeats 8000000
namespace Mine
local macro_rules | `(tactic| walk_at "nostop") => `(tactic| ((fail_if_success (with_reducible show wpAny _ _ (exec (Stmt.For _ _ _ _ _) _) _ _ _)); (fail_if_success (with_reducible show wpAny _ _ (eval (Expr.ListComp _ _ _ _) _) _ _ _)); (fail_if_success (with_reducible show wpAny _ _ (exec (Stmt.Assign _ (Expr.ListComp _ _ _ _) _) _) _ _ _))))
local macro_rules | `(tactic| walk_at "S") => `(tactic| repeat' (first | (k_unfold; (try dsimp only)) | (k_end; wrow_close) | (walk_at "nostop"; walk1) | (dsimp only; walk_at "nostop"; walk1) | (leave1; walk_say "STEP leave1"; try dsimp only) | fail "no step"))
local macro_rules | `(tactic| k_all) => `(tactic| assumption)
local macro_rules | `(tactic| size_fits) => `(tactic| with_reducible assumption)

local macro_rules | `(tactic| walk_at "enterC") => `(tactic| k_dflt (refine' code_defC ?k1 ?k2 ?k3 ?k4 ?k5 ?kA ?kF ?kK ?k6 ?k7 ?k8 ?k9 ?kB ?kD ?_ ?c2 ?c3 ?c4; (case kA => exact rfl); (case kF => exact rfl); (case kK => assumption); (case k1 => k_asm); (case k2 => k_asm); (case k3 => k_asm); (case k4 => k_asm); (case k5 => k_asm); (case k6 => k_is); (case k7 => k_is); (case k8 => ktr_room); (case k9 => exact BindsTo.of_eq rfl); (case kB => exact rfl); (case kD => decide +kernel); (case c2 => exact rfl); (case c3 => exact rfl); (case c4 => exact rfl); k_whole; intro g' L' h' tk' cells' FG' F' N' Y' B' X' T' l1; (try k_lt l1); k_cells Y'; (try simp only [List.cons_append, List.nil_append] at N'); (try dsimp only); (try k_fold)))

theorem led_d3 {g h : Heap} {L : Addr} {a b c d e f : Addr × Obj} {news : List (Addr × Obj)} (N : News g L h (a :: b :: c :: d :: e :: f :: news)) : News g L h (a :: e :: f :: news) := fun p hp => N p (by
  simp only [List.mem_cons] at hp ⊢
  rcases hp with hp | hp | hp | hp <;> simp only [hp, true_or, or_true])

theorem graceful_spec (w : World) (lt : Addr) (its : Array Value) (n : Nat) (ps : List (Int × Int)) (K : Int) (tm : Tok) (news : List (Addr × Obj)) (hm : (lt, W.listOf its n) ∈ news) (hP : PairsAt news its.toList ps) (h16 : ps.length ≤ 16) (hN1 : 1 ≤ K) (hN16 : K ≤ 16) (hG : Graceful ps K) :
    Spec 20 w 63 [.ref lt, .int K tm] news (fun _ => True) (fun r tl => r = .bool true) := by
  unfold Spec
  k_fill
  intro mean mg mb dp un gd cn cs a ccd cl outer A₀ base h₀ L m s Q E B F X N T hk _ hdp hun hret
  refine wpAny_call ?_
  walk_at "enterC"
  rename_i g' L' h' tk' FG' F' B' X' T' lL oh of dh df N'
  clear F B X T
  have hn1 : ∀ p ∈ news, p.1 ≠ L' + 1 := fun p hp => Nat.ne_of_lt (Nat.lt_succ_of_lt (lL p hp))
  have hn2 : ∀ p ∈ news, p.1 ≠ L' + 1 + 1 := fun p hp => Nat.ne_of_lt (Nat.lt_succ_of_lt (Nat.lt_succ_of_lt (lL p hp)))
  walk_at "S"
  refine comp_eval (by with_unfolding_all rfl) (by rfl) (by decide) ?_ (by intro _; with_unfolding_all rfl)
  walk_at "S"
  have hll : ∀ h : Heap, News g' L' h ((L' + 1 + 1, oh) :: (L' + 1, of) :: news) → h.IsList lt its.toList.toArray := fun h N => by
    rw [Array.toArray_toList]; exact ⟨_, (N (lt, _) (.tail _ (.tail _ hm))).1, rfl, _, rfl⟩
  refine src_list (by rfl) (.plain (by decide) (by rfl)) (fun N _ i ys nw => N = ((L' + 1 + 1, oh) :: (L' + 1, of) :: news) ∧ nw = N ∧ IntsAre ys ((ps.take i).map fun p => ((p.2 - p.1).natAbs : Int)) ∧ ys.length = i) (by rw [hP.length]; omega) F' N' (hll _ N')
    (fun C _ => ⟨rfl, rfl, .nil, rfl⟩) (fun _ _ _ _ _ h => Nat.le_of_eq h.2.2.2) (fun N C i ys nw h hJ _ N => hll h (by rw [hJ.2.1, hJ.1] at N; exact N)) ?_ ?_
  · rintro I _ C D i v ys nw h tk io mc oC ⟨rfl, rfl, hI, hyl⟩ hv Bk E'
    obtain ⟨T, x, t, y, u, rfl, hpi, hT⟩ := hP.get hv
    refine asg_pair (by rfl) Bk ⟨_, (Bk.N (T, tup2 x t y u) (.tail _ (.tail _ (.tail _ (.tail _ (.tail _ hT)))))).1, rfl, _, rfl⟩ (by rfl) (by rfl) (by rfl) fun h₁ tk₁ oC₁ Bk₁ => ?_
    refine wpAny_tests_nil ?_
    simp only [if_true]
    have F1 := Bk₁.F
    have N1 := Bk₁.N
    have hC1 := Bk₁.c
    have hx1 : (fun z => if z = Str.ofString "other" then some (.int y u) else if z = Str.ofString "one" then some (.int x t) else mc z) (Str.ofString "other") = some (.int y u) := by rfl
    have hx2 : (fun z => if z = Str.ofString "other" then some (.int y u) else if z = Str.ofString "one" then some (.int x t) else mc z) (Str.ofString "one") = some (.int x t) := by rfl
    walk_at "S"
    refine CompTurn.keep Bk₁ F1 N1 (fun p hp => hp) Bk₁.off ⟨True.intro, rfl, ?_, by simp [hyl]⟩
    rw [List.take_add_one, hpi, List.map_append]
    have e : (if y - x < 0 then -(y - x) else y - x) = ((y - x).natAbs : Int) := by split <;> omega
    rw [e]
    exact hI.append (.cons _ _ .nil)
  · rintro _ D C h tk mc ys nw ⟨rfl, rfl, hI, hyl⟩ F N hc h0 hL hD off
    rw [hP.length, List.take_length] at hI
    refine post_eval F N hc h0 hL hD off fun h₁ F1 N1 => ?_
    clear F N F' N'
    have hd1 : @Ne Nat (L' + 1) D := (off (L' + 1, of) (.tail _ (.head _))).2
    have hd2 : @Ne Nat (L' + 1 + 1) D := (off (L' + 1 + 1, oh) (.head _)).2
    show wpAny _ _ _ _ _ _
    walk_at "S"
    rotate_left
    · exfalso
      rename List.Perm _ (List.map _ ps) => hp
      rename List.Pairwise _ _ => ho
      rename ¬ _ = rangeKs _ _ => hne
      refine hne (sorted_range ?_ ho)
      refine hp.trans (hG.diffs.trans (List.Perm.of_eq ?_))
      congr 2
      omega
    refine wpAny_For ?_ (by intro _; with_unfolding_all rfl)
    walk_at "S"
    rename_i fl hq1 lfl hq2 ofd F2 N2 dfd
    generalize hM : (bindL _ _ _) = M at F2
    have hfn : ∀ p ∈ news, p.1 ≠ fl := fun p hp => Nat.ne_of_lt (allLt_mem lfl.2.2.2.2.2 p hp)
    refine for_list (m₀ := M) (fun i m nw => ∃ xs k ohx v₀ F, m = M ∧ nw = (fl, W.listOf xs.toArray k) :: (L' + 1 + 1, ohx) :: (L' + 1, ofd) :: news ∧ ohx.data = .cell v₀ ∧ IntsAre xs F ∧ Bfs ps K i F) 17 (by rfl) F2 (led_d3 N2) ?_ ?_ ?_ ?_
    · exact ⟨[_], _, oh, _, [0], rfl, rfl, dh, .cons _ _ .nil, Bfs.start (by omega)⟩
    · rintro i m nw h ⟨xs, k, ohx, v₀, F, rfl, rfl, dx, hx, hb⟩ F3 N3
      have hl := hx.length
      have h1 := hb.len (by omega)
      exact ⟨xs, ⟨_, (N3 (fl, _) (.head _)).1, rfl, k, rfl⟩, by rw [hl]; exact hb.le, by omega⟩
    · rintro i v m nw h tk it io its₂ ⟨xs, k, ohx, v₀, F, rfl, rfl, dx, hx, hb⟩ F3 N3 hoff hioc hlist hv E'
      have hxs : xs = its₂ := by
        obtain ⟨o, ho, _, _, hd⟩ := hlist
        have h2 := (N3 (fl, _) (.tail _ (.head _))).1
        rw [ho] at h2
        rw [Option.some.inj h2] at hd
        injection hd with h4 _
        simpa using congrArg Array.toList h4
      subst hxs
      have hil : i < F.length := by rw [← hx.length]; exact (List.getElem?_eq_some_iff.mp hv).1
      obtain ⟨tv, hxv⟩ := hx.get i _ (List.getElem?_eq_getElem hil)
      have ev : v = .int F[i] tv := by rw [hxv] at hv; exact (Option.some.inj hv).symm
      subst ev
      have hFi : F[i]? = some F[i] := List.getElem?_eq_getElem hil
      generalize F[i] = here at hFi
      subst hM
      have hz1 : @Ne Nat it (L' + 1 + 1) := fun e => hoff (L' + 1 + 1, ohx) (.tail _ (.head _)) e.symm
      have hz2 : @Ne Nat it (L' + 1) := fun e => hoff (L' + 1, ofd) (.tail _ (.tail _ (.head _))) e.symm
      have hz3 : @Ne Nat it fl := fun e => hoff (fl, _) (.head _) e.symm
      have hz4 : ∀ p ∈ news, p.1 ≠ it := fun p hp => hoff p (.tail _ (.tail _ (.tail _ hp)))
      have hz5 : @Ne Nat fl (L' + 1 + 1) := Nat.ne_of_gt lfl.2.2.2.1
      have hz6 : @Ne Nat fl (L' + 1) := Nat.ne_of_gt lfl.2.2.2.2.1
      refine wpAny_assign_Name ?_
      walk_at "S"
      rename_i h4 o4 F4 N4 d4
      refine comp_eval (by with_unfolding_all rfl) (by rfl) (by decide) ?_ (by intro _; with_unfolding_all rfl)
      walk_at "S"
      have hl4 : ∀ h : Heap, News g' L' h ((it, io) :: (fl, W.listOf xs.toArray k) :: (L' + 1 + 1, o4) :: (L' + 1, ofd) :: news) → h.IsList lt its.toList.toArray := fun h N => by
        rw [Array.toArray_toList]; exact ⟨_, (N (lt, _) (.tail _ (.tail _ (.tail _ (.tail _ hm))))).1, rfl, _, rfl⟩
      refine src2_list (by rfl) (.plain (by decide) (by rfl)) (fun j ys nw => nw = ((it, io) :: (fl, W.listOf xs.toArray k) :: (L' + 1 + 1, o4) :: (L' + 1, ofd) :: news) ∧ IntsAre ys (theres (ps.take j) F here) ∧ ys.length ≤ 2 * j) F4 N4 (hl4 _ N4) ⟨rfl, .nil, Nat.zero_le _⟩ (fun j ys nw h hJ _ N => hl4 h (by rw [hJ.1] at N; exact N)) (by intro C x; with_unfolding_all rfl) ?_ ?_
      · rintro I C D j v ys nw h tk io₂ mc oC ⟨rfl, hI, hyl⟩ hv Bk E'
        obtain ⟨T, x, t, y, u, rfl, hpi, hT⟩ := hP.get hv
        refine asg_pair (by rfl) Bk ⟨_, (Bk.N (T, tup2 x t y u) (.tail _ (.tail _ (.tail _ (.tail _ (.tail _ (.tail _ (.tail _ hT)))))))).1, rfl, _, rfl⟩ (by rfl) (by rfl) (by rfl) fun h₁ tk₁ oC₁ Bk₁ => ?_
        have F1 := Bk₁.F
        have N1 := Bk₁.N
        have hC1 := Bk₁.c
        have hx1 : (fun z => if z = Str.ofString "other" then some (.int y u) else if z = Str.ofString "one" then some (.int x t) else mc z) (Str.ofString "other") = some (.int y u) := by rfl
        have hx2 : (fun z => if z = Str.ofString "other" then some (.int y u) else if z = Str.ofString "one" then some (.int x t) else mc z) (Str.ofString "one") = some (.int x t) := by rfl
        walk_at "S"
        rename_i T1 _h lA T2 _h2 lB ll h6 F6 N6 lC
        have hne := Bk₁.ne
        have hoffB := Bk₁.off
        have zC := N6 (C, oC₁) (.tail _ (.tail _ (.tail _ (.tail _ (.head _)))))
        have zI := N6 (I, io₂) (.tail _ (.tail _ (.tail _ (.head _))))
        have hll : h6.IsList ll [Value.ref T1, Value.ref T2].toArray := ⟨_, (N6 (ll, _) (.head _)).1, rfl, _, rfl⟩
        have hc6 := Bk₁.c.ns zC.1
        have hof : ∀ p ∈ (I, io₂) :: (ll, W.listOf #[Value.ref T1, Value.ref T2] 0) :: (T2, tup2 y u x t) :: (T1, tup2 x t y u) :: (it, io) :: (fl, W.listOf xs.toArray k) :: (L' + 1 + 1, o4) :: (L' + 1, ofd) :: news, p.1 ≠ C ∧ p.1 ≠ D := by
          intro p hp
          rcases List.mem_cons.mp hp with rfl | hp
          · exact ⟨hne.1, hne.2.1⟩
          rcases List.mem_cons.mp hp with rfl | hp
          · exact ⟨Nat.ne_of_gt lC.2.2.2.1, Nat.ne_of_gt lC.2.2.2.2.1⟩
          rcases List.mem_cons.mp hp with rfl | hp
          · exact ⟨Nat.ne_of_gt lB.2.2.1, Nat.ne_of_gt lB.2.2.2.1⟩
          rcases List.mem_cons.mp hp with rfl | hp
          · exact ⟨Nat.ne_of_gt lA.2.1, Nat.ne_of_gt lA.2.2.1⟩
          exact (hoffB p hp).2
        refine src_in (news₀ := (I, io₂) :: (ll, W.listOf #[Value.ref T1, Value.ref T2] 0) :: (T2, tup2 y u x t) :: (T1, tup2 x t y u) :: (it, io) :: (fl, W.listOf xs.toArray k) :: (L' + 1 + 1, o4) :: (L' + 1, ofd) :: news) (ys₀ := ys) (by rfl) (by rfl) (by rfl)
          (fun e ys' nw => nw = ((I, io₂) :: (ll, W.listOf #[Value.ref T1, Value.ref T2] 0) :: (T2, tup2 y u x t) :: (T1, tup2 x t y u) :: (it, io) :: (fl, W.listOf xs.toArray k) :: (L' + 1 + 1, o4) :: (L' + 1, ofd) :: news) ∧ IntsAre ys' (theres (ps.take j) F here ++ (List.take e [if x = here ∧ y ∉ F then [y] else [], if y = here ∧ x ∉ F then [x] else []]).flatten) ∧ ys'.length ≤ 2 * j + e ∧ e ≤ 2)
          (by simp) F6 ?_ hc6 hll ⟨zC.2.1, zC.2.2⟩ hof hne.2.2 ⟨rfl, by simpa using hI, hyl, Nat.zero_le _⟩ ?_ ?_ ?_ ?_
        · intro p hp
          refine N6 p ?_
          simp only [List.mem_cons, tup2] at hp ⊢
          rcases hp with hp | hp | hp | hp | hp | hp <;> simp only [hp, true_or, or_true]
        · rintro e ys' nw ⟨_, _, h1, h2⟩
          rw [sizeLine_eq]
          have := (List.getElem?_eq_some_iff.mp hpi).1
          omega
        · rintro e ys' nw h ⟨rfl, _, _⟩ _ N
          exact ⟨_, (N (ll, _) (.tail _ (.head _))).1, rfl, _, rfl⟩
        · rintro I3 e v ys' nw h tk io3 mc3 oC3 ⟨rfl, hI3, hyl3⟩ hv3 Bk3 E3
          have heb : e + 1 ≤ 2 := (List.getElem?_eq_some_iff.mp hv3).1
          obtain ⟨Tq, p, q, tp, tq, rfl, hTq, hpart⟩ : ∃ Tq p q tp tq, v = .ref Tq ∧ (Tq, tup2 p tp q tq) ∈ (T2, tup2 y u x t) :: (T1, tup2 x t y u) :: news ∧ (List.take (e + 1) [if x = here ∧ y ∉ F then [y] else [], if y = here ∧ x ∉ F then [x] else []]).flatten = (List.take e [if x = here ∧ y ∉ F then [y] else [], if y = here ∧ x ∉ F then [x] else []]).flatten ++ (if p = here ∧ q ∉ F then [q] else []) := by
            match e, hv3 with
            | 0, hv3 => exact ⟨T1, x, y, t, u, (Option.some.inj hv3).symm, .tail _ (.head _), by simp⟩
            | 1, hv3 => exact ⟨T2, y, x, u, t, (Option.some.inj hv3).symm, .head _, by simp⟩
          refine asg_pair (by rfl) Bk3 ⟨_, (Bk3.N (Tq, tup2 p tp q tq) ?_).1, rfl, _, rfl⟩ (by rfl) (by rfl) (by rfl) fun h₁ tk₁ oC4 Bk4 => ?_
          · simp only [List.mem_cons] at hTq ⊢
            rcases hTq with hp | hp | hp <;> simp only [hp, true_or, or_true]
          refine wpAny_tests_one ?_
          have F7 := Bk4.F
          have N7 := Bk4.N
          have hC7 := Bk4.c
          have hx3 : (fun z => if z = Str.ofString "there" then some (.int q tq) else if z = Str.ofString "at" then some (.int p tp) else mc3 z) (Str.ofString "there") = some (.int q tq) := by rfl
          have hx4 : (fun z => if z = Str.ofString "there" then some (.int q tq) else if z = Str.ofString "at" then some (.int p tp) else mc3 z) (Str.ofString "at") = some (.int p tp) := by rfl
          walk_at "S"
          · rename _ = true => hq
            have hq : q ∈ F := by simpa using hq
            have hc0 : (if p = here ∧ q ∉ F then [q] else []) = [] := if_neg fun h => h.2 hq
            refine CompTurn.keep Bk4 F7 N7 (fun p hp => hp) Bk4.off ⟨rfl, ?_, ?_⟩
            · rw [hpart, hc0, List.append_nil]
              simpa using hI3
            · have := hyl3; have := heb; simp only [Option.toList_none, List.append_nil]; omega
          · rename p = here => hph
            rename _ = false => hq
            have hq : q ∉ F := fun h => (by simpa using hq : ∀ x : Int, x ∈ F → ¬x = q) q h rfl
            have hc0 : (if p = here ∧ q ∉ F then [q] else []) = [q] := if_pos ⟨hph, hq⟩
            refine CompTurn.keep Bk4 F7 N7 (fun p hp => hp) Bk4.off ⟨rfl, ?_, ?_⟩
            · rw [hpart, hc0, ← List.append_assoc]
              exact hI3.append (.cons _ _ .nil)
            · have := hyl3; have := heb; simp only [Option.toList_some, List.length_append, List.length_singleton]; omega
          · rename p ≠ here => hph
            have hc0 : (if p = here ∧ q ∉ F then [q] else []) = [] := if_neg fun h => hph h.1
            refine CompTurn.keep Bk4 F7 N7 (fun p hp => hp) Bk4.off ⟨rfl, ?_, ?_⟩
            · rw [hpart, hc0, List.append_nil]
              simpa using hI3
            · have := hyl3; have := heb; simp only [Option.toList_none, List.append_nil]; omega
        · rintro ys' nw h tk mc3 ⟨rfl, hI3, hyl3⟩ F8 N8 hc8 off8
          have zC8 := ns_obj hc8
          obtain ⟨oC8, hoC8, hcC8⟩ := zC8
          refine ⟨h, tk, oC8, mc3, ys', _, rfl, ⟨F8, fun p hp => ?_, hcC8, hoffB, hne⟩, rfl, ?_, by have := hyl3.1; simp only [List.length_cons, List.length_nil] at this; omega⟩
          · rcases List.mem_cons.mp hp with rfl | hp
            · exact N8 _ (.tail _ (.head _))
            rcases List.mem_cons.mp hp with rfl | hp
            · exact ⟨hoC8, zC.2⟩
            rcases List.mem_cons.mp hp with rfl | hp
            · exact N8 _ (.head _)
            · exact N8 _ (.tail _ (.tail _ (.tail _ (.tail _ (.tail _ hp)))))
          · have e : theres (ps.take (j + 1)) F here = theres (ps.take j) F here ++ (List.take [Value.ref T1, Value.ref T2].length [if x = here ∧ y ∉ F then [y] else [], if y = here ∧ x ∉ F then [x] else []]).flatten := by
              unfold theres
              rw [List.take_add_one, hpi, List.flatMap_append]
              simp
            rw [e]
            exact hI3
      · rintro D C h tk mc ys nw ⟨rfl, hI, hyl⟩ F5 N5 hc h0 hL hD off
        refine post_eval F5 N5 hc h0 hL hD off fun h₁ F1 N1 => ?_
        have h1 := hb.len (by omega)
        have h2 := hx.length
        rw [hP.length, List.take_length] at hI
        rw [hP.length] at hyl
        show wpAny _ _ _ _ _ _
        walk_at "S"
        refine extend_in_ints (own := [(D, lst ys), (it, io)]) F1 N1 ?_ ?_ (N1 (D, lst ys) (.head _)).1 hx (by simpa using hI) (fun h' n' F8 N8 hI8 => ?_) (by rw [sizeLine_eq, List.size_toArray]; omega)
        · exact apart2 (Ne.symm (off (fl, _) (.tail _ (.head _))).2) hz3
        · intro p hp
          rcases List.mem_cons.mp hp with rfl | hp
          · exact Ne.symm hz5
          rcases List.mem_cons.mp hp with rfl | hp
          · exact Ne.symm hz6
          exact hfn p hp
        refine wpAny_execs_nil ?_
        refine ⟨h', _, _, _, rfl, F8, fun p hp => N8 p (.tail _ hp), ?_, ⟨_, _, o4, _, _, rfl, rfl, d4, hI8, hb.step hG hFi⟩⟩
        intro p hp
        rcases List.mem_cons.mp hp with rfl | hp
        · exact Ne.symm hz3
        rcases List.mem_cons.mp hp with rfl | hp
        · exact Ne.symm hz1
        rcases List.mem_cons.mp hp with rfl | hp
        · exact Ne.symm hz2
        exact hz4 p hp
    · rintro i m nw h tk its₂ ⟨xs, k, ohx, v₀, F, rfl, rfl, dx, hx, hb⟩ F3 N3 hlist hi
      have h1 := hb.len (by omega)
      have hxs : xs = its₂ := by
        obtain ⟨o, ho, _, _, hd⟩ := hlist
        have h2 := (N3 (fl, _) (.head _)).1
        rw [ho] at h2
        rw [Option.some.inj h2] at hd
        injection hd with h4 _
        simpa using congrArg Array.toList h4
      subst hxs
      have hxl := hx.length
      have h2 : xs.length ≤ 17 := by rw [hx.length]; omega
      have h3 : F.length ≤ 17 := by omega
      subst hM
      clear F2 N2
      walk_at "S"
      rename_i F9 N9 _ _
      rename List.Perm _ F => hp
      rename List.Pairwise _ _ => ho
      have e : (K + 1).toNat = (K + 1 - 0).toNat := by omega
      rw [hxl] at hi
      subst hi
      have hpp := hb.perm hG
      rw [e] at hpp
      rw [decide_eq_true (sorted_range (hp.trans hpp) ho)]
      refine leaveK_ F9 N9 fun kF kN => ?_
      refine hret _ (_ :: _ :: _ :: _ :: _ :: []) _ _ kF kN rfl
end Mine
end

section
open PySem PySem.Spec PySem.Calls PySem.W PyProof.Rows PyProof.Rows.LCg
set_option Elab.async false
set_option maxRecDepth 100000
set_option maxHeartbeats 8000000
namespace Mine
local macro_rules | `(tactic| walk_at "nostop") => `(tactic| ((fail_if_success (with_reducible show wpAny _ _ (exec (Stmt.For _ _ _ _ _) _) _ _ _)); (fail_if_success (with_reducible show wpAny _ _ (eval (Expr.ListComp _ _ _ _) _) _ _ _)); (fail_if_success (with_reducible show wpAny _ _ (exec (Stmt.Assign _ (Expr.ListComp _ _ _ _) _) _) _ _ _))))
local macro_rules | `(tactic| walk_at "S") => `(tactic| repeat' (first | (k_unfold; (try dsimp only)) | (k_end; wrow_close) | (walk_at "nostop"; walk1) | (dsimp only; walk_at "nostop"; walk1) | (leave1; walk_say "STEP leave1"; try dsimp only) | fail "no step"))
local macro_rules | `(tactic| k_all) => `(tactic| assumption)
local macro_rules | `(tactic| size_fits) => `(tactic| with_reducible assumption)

abbrev prg : Program := PySem.Challenge.rw_gg0003_01.row.prog
abbrev pS : Str := Str.ofString "p"

theorem notin_take {ks : List Int} {i : Nat} {x : Int} (hn : ks.Nodup) (hx : ks[i]? = some x) : x ∉ ks.take i := by
  intro hm
  obtain ⟨j, hj⟩ := List.mem_iff_getElem?.mp hm
  have hlt : j < i := by have := (List.getElem?_eq_some_iff.mp hj).1; rw [List.length_take] at this; omega
  rw [List.getElem?_take_of_lt hlt] at hj
  have := (List.getElem?_inj (List.getElem?_eq_some_iff.mp hj).1 hn).mp (hj.trans hx.symm)
  omega

theorem count_spec (w : World) (t : Addr) (news : List (Addr × Obj)) (ks : List Int) (hr : Row prg w pS news t ks) (h16 : ks.length ≤ 64) :
    Spec 10 w 46 [.ref t] news (fun _ => True) (fun r _ => ∃ tk, r = .int (ks.length : Int) tk) := by
  obtain ⟨lo, ot, htm, hro⟩ := hr
  unfold Spec
  k_fill
  intro mean mg mb dp un gd cn cs a ccd cl outer A₀ base h₀ L m s Q E B F X N T hk _ hdp hun hret
  refine wpAny_call ?_
  k_dflt ktr_enter
  rename_i g' L' h' FG' F' N' B' X' T'
  clear F B X T
  walk_at "S"
  refine wpAny_For ?_ (by intro _; with_unfolding_all rfl)
  walk_at "S"
  rename_i h2 F2 N2
  obtain ⟨es, ep, xs, hx1, hx2, hx3, hx4, hx5, hx6⟩ := id hro
  have hraw : ∀ h : Heap, News g' L' h news → RawDict h t es ep := fun h N => ⟨ot, (N _ htm).1, hx1.1, hx2⟩
  have hsz : es.size = ks.length := by rw [← Array.length_toList, hx3, List.length_map, ← hx4, List.length_map]
  refine getMethod_row (id := "dict.values") PySem.F.slot_dict_values PySem.F.type_dict_values (N2 _ htm).1 hx1 ?_
  walk_at "S"
  refine values_call lo (hraw _ N2) ?_
  have F3 := F2.push { cls := .type "dict_values", data := .fields #[.ref t] }
  have hNn : ∀ v o, News g' L' h2 ((v, o) :: []) → News g' L' h2 ((v, o) :: news) := fun v o h p hp => by
    rcases List.mem_cons.mp hp with rfl | hp
    · exact h _ (.head _)
    · exact N2 p hp
  walk_at "S"
  refine for_values (news₀ := news) (by rfl) F3 (fun p hp => ⟨Heap.get?_push_of_some _ (N2 p hp).1, (N2 p hp).2⟩) (Heap.get?_push_size _ rfl) (hraw _ fun p hp => ⟨Heap.get?_push_of_some _ (N2 p hp).1, (N2 p hp).2⟩)
    (fun i m nw => nw = news ∧ ∃ tk, m "nc" = some (.int (i : Int) tk)) ⟨rfl, _, rfl⟩ (fun i m nw h hJ _ N => hraw h (by rw [hJ.1] at N; exact N)) ?_ ?_
  · rintro I i e m nw h tk io ⟨rfl, tk1, e1⟩ he F4 N4 off E'
    have hv : ∃ t, e.val = .int 1 t := by
      rw [← Array.getElem?_toList, hx3, List.getElem?_map] at he
      cases hq : xs[i]? with
      | none => rw [hq] at he; cases he
      | some x =>
        rw [hq] at he
        obtain ⟨_, t, ht⟩ := hx6 x (List.mem_of_getElem? hq)
        refine ⟨t, ?_⟩
        rw [← Option.some.inj he]
        exact ht
    obtain ⟨t1, hv⟩ := hv
    rw [hv]
    have F5 := fr_of F4 (pin (fun _ => rfl) e1)
    clear F4 F3 F2 N2
    refine wpAny_assign_Name ?_
    walk_at "S"
    rename_i F9 N9
    exact ⟨_, _, _, _, rfl, F9, N9, off, rfl, _, rfl⟩
  · rintro m nw h tk ⟨rfl, tk1, e1⟩ F4 N4
    have F5 := fr_of F4 (pin (fun _ => rfl) e1)
    clear F4 F3 F2 N2
    walk_at "S"
    refine leaveK_ F5 N4 fun kF kN => ?_
    exact hret _ [] _ _ kF kN ⟨_, by rw [hsz]⟩

theorem add_spec (w : World) (t c : Addr) (news : List (Addr × Obj)) (ks : List Int) (k : Int) (ht : Row prg w pS news t ks) (hc : Row prg w pS news c [k]) (hk : k ∉ ks) (h16 : ks.length ≤ 60) :
    Spec 10 w 39 [.ref t, .ref c] news (fun _ => True) (fun r tl => ∃ d, r = .ref d ∧ Row prg w pS (tl ++ news) d (ks ++ [k])) := by
  obtain ⟨lo, ot, htm, hro⟩ := ht
  obtain ⟨loc, oc, hcm, hroc⟩ := hc
  unfold Spec
  k_fill
  intro mean mg mb dp un gd cn cs a ccd cl outer A₀ base h₀ L m s Q E B F X N T hk' _ hdp hun hret
  refine wpAny_call ?_
  k_dflt ktr_enter
  rename_i g' L' h' FG' F' N' B' X' T'
  clear F B X T
  walk_at "S"
  refine wpAny_For ?_ (by intro _; with_unfolding_all rfl)
  walk_at "S"
  rename_i d hq1 oD lD lD0 hD1 hD2 hD3 hD4 h2 F2 N2
  obtain ⟨es, ep, xs, hx1, hx2, hx3, hx4, hx5, hx6⟩ := id hro
  obtain ⟨esc, epc, xsc, hc1, hc2, hc3, hc4, hc5, hc6⟩ := id hroc
  have hsz : es.size = ks.length := by rw [← Array.length_toList, hx3, List.length_map, ← hx4, List.length_map]
  have hszc : esc.size = 1 := by rw [← Array.length_toList, hc3, List.length_map, ← List.length_map (f := (·.1)), hc4]; rfl
  have hne : ∀ p ∈ news, p.1 ≠ d := fun p hp => Nat.ne_of_lt (lD p hp)
  have hraw : ∀ (h : Heap) o, News g' L' h ((d, o) :: news) → RawDict h t es ep := fun h o N => ⟨ot, (N _ (.tail _ htm)).1, hx1.1, hx2⟩
  have hrawc : ∀ (h : Heap) o, News g' L' h ((d, o) :: news) → RawDict h c esc epc := fun h o N => ⟨oc, (N _ (.tail _ hcm)).1, hc1.1, hc2⟩
  refine getMethod_row (id := "dict.items") PySem.F.slot_dict_items PySem.F.type_dict_items (N2 _ (.tail _ htm)).1 hx1 ?_
  walk_at "S"
  refine items_call lo (hraw _ _ N2) ?_
  have F3 := F2.push { cls := .type "dict_items", data := .fields #[.ref t] }
  have N3 : News g' L' (h2.push { cls := .type "dict_items", data := .fields #[.ref t] }) ((d, oD) :: news) := fun p hp => ⟨Heap.get?_push_of_some _ (N2 p hp).1, (N2 p hp).2⟩
  walk_at "S"
  refine for_items (by rfl) F3 N3 (Heap.get?_push_size _ rfl) (hraw _ _ N3)
    (fun i m nw => ∃ o, nw = (d, o) :: news ∧ RowObj prg w pS news o (ks.take i) ∧ m "new_callers" = some (.ref d) ∧ m "source" = some (.ref c)) ⟨oD, rfl, RowObj.nil hD1, rfl, rfl⟩ (fun i m nw h hJ _ N => by obtain ⟨o, rfl, _⟩ := hJ; exact hraw h _ N) ?_ ?_
  · rintro I i e T m nw h tk io ⟨o, rfl, hr, e1, e2⟩ he hT F4 N4 off E'
    have hv : ∃ x, ks[i]? = some x ∧ ∃ a t₁ t₂ t₃ tv, (a, pk pS x t₁ t₂ t₃) ∈ news ∧ e.key = .ref a ∧ e.val = .int 1 tv := by
      rw [← Array.getElem?_toList, hx3, List.getElem?_map] at he
      cases hq : xs[i]? with
      | none => rw [hq] at he; cases he
      | some x =>
        rw [hq] at he
        obtain ⟨⟨t₁, t₂, t₃, hm⟩, tv, ht⟩ := hx6 x (List.mem_of_getElem? hq)
        refine ⟨x.1, by rw [← hx4, List.getElem?_map, hq]; rfl, x.2.1, t₁, t₂, t₃, tv, hm, ?_, ?_⟩
        · rw [← Option.some.inj he]; rfl
        · rw [← Option.some.inj he]; exact ht
    obtain ⟨x, hxi, ka, t₁, t₂, t₃, tv, hkm, hek, hev⟩ := hv
    rw [hek, hev] at hT
    have F5 := fr_of F4 (pin (pin (fun _ => rfl) e2) e1)
    clear F4 F3 F2 N2 N3
    refine asg_pairF (by rfl) hT (by rfl) (by rfl) (by rfl) F5 N4 fun h' tk F6 N6 => ?_
    clear F5 N4
    walk_at "S"
    refine row_set (P := pS) (rest := (I, io) :: news) (k := x) (by show un + 3 + 1 < cLine; omega) F6 (fun p hp => N6 p ?_) ?_ hr (fun p hp => .tail _ hp) hkm (notin_take hx5 hxi) (by rw [List.length_take]; omega) fun h₂ o₂ F7 N7 hr7 => ?_
    · simp only [List.mem_cons] at hp ⊢
      rcases hp with hp | hp | hp <;> simp only [hp, true_or, or_true]
    · intro p hp
      rcases List.mem_cons.mp hp with rfl | hp
      · exact fun e => off (d, o) (.head _) e.symm
      · exact hne p hp
    refine wpAny_execs_nil ⟨_, _, _, _, rfl, F7, fun p hp => N7 p ?_, ?_, o₂, rfl, ?_, rfl, rfl⟩
    · simp only [List.mem_cons] at hp ⊢
      rcases hp with hp | hp | hp <;> simp only [hp, true_or, or_true]
    · intro p hp
      rcases List.mem_cons.mp hp with rfl | hp
      · exact off (d, o) (.head _)
      · exact off p (.tail _ hp)
    · rw [List.take_add_one, hxi]
      exact hr7
  · rintro m nw h tk ⟨o, rfl, hr, e1, e2⟩ F4 N4
    rw [hsz, List.take_length] at hr
    have F5 := fr_of F4 (pin (pin (fun _ => rfl) e2) e1)
    clear F4 F3 F2 N2 N3
    walk_at "S"
    refine wpAny_For ?_ (by intro _; with_unfolding_all rfl)
    walk_at "S"
    refine getMethod_row (id := "dict.items") PySem.F.slot_dict_items PySem.F.type_dict_items (N4 _ (.tail _ hcm)).1 hc1 ?_
    walk_at "S"
    refine items_call loc (hrawc _ _ N4) ?_
    have F6 := F5.push { cls := .type "dict_items", data := .fields #[.ref c] }
    have N6 : News g' L' (h.push { cls := .type "dict_items", data := .fields #[.ref c] }) ((d, o) :: news) := fun p hp => ⟨Heap.get?_push_of_some _ (N4 p hp).1, (N4 p hp).2⟩
    walk_at "S"
    refine for_items (by rfl) F6 N6 (Heap.get?_push_size _ rfl) (hrawc _ _ N6)
      (fun i m nw => ∃ o, nw = (d, o) :: news ∧ RowObj prg w pS news o (ks ++ [k].take i) ∧ m "new_callers" = some (.ref d)) ⟨o, rfl, by rw [List.take_zero, List.append_nil]; exact hr, rfl⟩ (fun i m nw h hJ _ N => by obtain ⟨o, rfl, _⟩ := hJ; exact hrawc h _ N) ?_ ?_
    · clear hr e1 e2 F5 F6 N4 N6
      rintro I i e T m nw h tk io ⟨o, rfl, hr, e1⟩ he hT F4 N4 off E'
      have hi0 : i = 0 := by have := (Array.getElem?_eq_some_iff.mp he).1; omega
      subst hi0
      rw [List.take_zero, List.append_nil] at hr
      have hv : ∃ a t₁ t₂ t₃ tv, (a, pk pS k t₁ t₂ t₃) ∈ news ∧ e.key = .ref a ∧ e.val = .int 1 tv := by
        rw [← Array.getElem?_toList, hc3, List.getElem?_map] at he
        cases hq : xsc[0]? with
        | none => rw [hq] at he; cases he
        | some x =>
          rw [hq] at he
          obtain ⟨⟨t₁, t₂, t₃, hm⟩, tv, ht⟩ := hc6 x (List.mem_of_getElem? hq)
          have hxk : x.1 = k := by
            have h1 := congrArg (·[0]?) hc4
            simp only [List.getElem?_map, hq] at h1
            simpa using h1
          rw [hxk] at hm
          refine ⟨x.2.1, t₁, t₂, t₃, tv, hm, ?_, ?_⟩
          · rw [← Option.some.inj he]; rfl
          · rw [← Option.some.inj he]; exact ht
      obtain ⟨ka, t₁, t₂, t₃, tv, hkm, hek, hev⟩ := hv
      rw [hek, hev] at hT
      have F5 := fr_of F4 (pin (fun _ => rfl) e1)
      clear F4
      refine asg_pairF (by rfl) hT (by rfl) (by rfl) (by rfl) F5 N4 fun h' tk F6 N6 => ?_
      clear F5 N4
      walk_at "S"
      refine row_in (P := pS) (k := k) (by show un + 3 + 1 < cLine; omega) lD0 N6 (.tail _ (.head _)) hr (fun p hp => .tail _ (.tail _ hp)) (.tail _ (.tail _ hkm)) hk ?_
      walk_at "S"
      refine row_set (P := pS) (rest := (I, io) :: news) (k := k) (by show un + 3 + 1 < cLine; omega) F6 (fun p hp => N6 p ?_) ?_ hr (fun p hp => .tail _ hp) hkm hk (by omega) fun h₂ o₂ F7 N7 hr7 => ?_
      · simp only [List.mem_cons] at hp ⊢
        rcases hp with hp | hp | hp <;> simp only [hp, true_or, or_true]
      · intro p hp
        rcases List.mem_cons.mp hp with rfl | hp
        · exact fun e => off (d, o) (.head _) e.symm
        · exact hne p hp
      walk_at "S"
      refine ⟨_, _, _, _, rfl, F7, fun p hp => N7 p ?_, ?_, o₂, rfl, hr7, rfl⟩
      · simp only [List.mem_cons] at hp ⊢
        rcases hp with hp | hp | hp <;> simp only [hp, true_or, or_true]
      · intro p hp
        rcases List.mem_cons.mp hp with rfl | hp
        · exact off (d, o) (.head _)
        · exact off p (.tail _ hp)
    · clear hr e1 e2 F5 F6 N4 N6
      rintro m nw h tk ⟨o, rfl, hr, e1⟩ F4 N4
      have F5 := fr_of F4 (pin (fun _ => rfl) e1)
      clear F4
      walk_at "S"
      refine leaveK_ F5 N4 fun kF kN => ?_
      rw [hszc, List.take_one] at hr
      exact hret _ [(d, o)] _ _ kF kN ⟨d, rfl, lD0, o, .head _, hr.mono fun p hp => .tail _ hp⟩
end Mine
end

section
open PySem PySem.Spec PySem.Calls PySem.W PyProof.Rows PyProof.Rows.LCg
set_option Elab.async false
set_option maxRecDepth 100000
set_option maxHeartbeats 8000000
namespace Mine
local macro_rules | `(tactic| walk_at "nostop") => `(tactic| ((fail_if_success (with_reducible show wpAny _ _ (exec (Stmt.For _ _ _ _ _) _) _ _ _)); (fail_if_success (with_reducible show wpAny _ _ (eval (Expr.ListComp _ _ _ _) _) _ _ _)); (fail_if_success (with_reducible show wpAny _ _ (exec (Stmt.Assign _ (Expr.ListComp _ _ _ _) _) _) _ _ _))))
local macro_rules | `(tactic| walk_at "S") => `(tactic| repeat' (first | (k_unfold; (try dsimp only)) | (k_end; wrow_close) | (walk_at "nostop"; walk1) | (dsimp only; walk_at "nostop"; walk1) | (leave1; walk_say "STEP leave1"; try dsimp only) | fail "no step"))
local macro_rules | `(tactic| k_all) => `(tactic| assumption)
local macro_rules | `(tactic| size_fits) => `(tactic| with_reducible assumption)

theorem Spec.use {lev : Nat} {w : World} {f : Addr} {args : List Value} {news : List (Addr × Obj)} {Pre : Heap → Prop} {Post : Value → List (Addr × Obj) → Prop} (S : Spec lev w f args news Pre Post)
    {mean : ExcName → Option Value} {mg mb : Str → Option Value} {dp un : Nat} {gd : Option (List Code)} {cn : Str} {cs : Scope} {a : Addr} {ccd : Value} {cl : List (Str × Addr)} {outer : List Env} {A₀ : Around} {base h₀ : Heap} {L : Addr} {m : Str → Option Value} {s : Shared} {Q E : Value → Shared → Prop}
    (B : Below A₀ base outer h₀) (F : Fr h₀ L s.heap m) (X : (Mine.hd.heap_39 w.params).In h₀) (N : News h₀ L s.heap news) (T : Top Mine.hd.view_39 (looseW Mine.hd.view_39 [Str.ofString "insort_left", Str.ofString "bisect_left"]) mean mg mb h₀)
    (hk : cs.kind = .function) (hp : Pre h₀) (hdp : dp + lev < recursionLimit) (hun : un + 20 * lev < cLine)
    (k : ∀ r tl h' tk', Fr h₀ L h' m → News h₀ L h' (tl ++ news) → Post r tl → Q r { s with heap := h', toks := tk' }) :
    wpAny (model PySem.Challenge.rw_gg0003_01.row.prog w) (ktrTop dp un gd cn cs L a ccd cl outer) (call (.ref f) args) Q E s :=
  S mean mg mb dp un gd cn cs a ccd cl outer A₀ base h₀ L m s Q E B F X N T hk hp hdp hun k

/-- each place's row -/
def RowsAt (w : World) (led : List (Addr × Obj)) (rows : List Value) (f : Nat → List Int) : Prop :=
  ∀ j, j < rows.length → ∃ d, rows[j]? = some (.ref d) ∧ Row prg w pS led d (f j)

theorem Row.part {w : World} {h₀ h : Heap} {L : Addr} {big led : List (Addr × Obj)} {d D it : Addr} {oD io : Obj} {ks : List Int} (r : Row prg w pS big d ks) (N : News h₀ L h big) (hD : (D, oD) ∈ big) (hcD : oD.cls = .type "list") (hit : (it, io) ∈ big) (hcI : io.cls = .type "list_iterator")
    (hs : ∀ p ∈ big, p.1 ≠ D → p.1 ≠ it → p ∈ led) : Row prg w pS led d ks := by
  have key : ∀ p ∈ big, p.2.cls ≠ .type "list" → p.2.cls ≠ .type "list_iterator" → p ∈ led := by
    intro p hp h1 h2
    refine hs p hp (fun e => h1 ?_) (fun e => h2 ?_)
    · have z1 := (N p hp).1
      rw [e, (N _ hD).1] at z1
      rw [← Option.some.inj z1]; exact hcD
    · have z1 := (N p hp).1
      rw [e, (N _ hit).1] at z1
      rw [← Option.some.inj z1]; exact hcI
  obtain ⟨lo, o, hm, es, ep, xs, h1, h2, h3, h4, h5, h6⟩ := r
  refine ⟨lo, o, key _ hm ?_ ?_, es, ep, xs, h1, h2, h3, h4, h5, fun x hx => ?_⟩
  · rw [h1.1]; intro e; injection e with e; exact absurd e (by decide)
  · rw [h1.1]; intro e; injection e with e; exact absurd e (by decide)
  · obtain ⟨⟨t₁, t₂, t₃, hk⟩, hv⟩ := h6 x hx
    refine ⟨⟨t₁, t₂, t₃, key _ hk ?_ ?_⟩, hv⟩
    · intro e; injection e with e; exact absurd e (by decide)
    · intro e; injection e with e; exact absurd e (by decide)

theorem store_row {w : World} {A : Around} {E : Value → Shared → Prop} {s : Shared} {h₀ : Heap} {L D it d₁ : Addr} {m : Str → Option Value} {big tl news : List (Addr × Obj)} {rows : List Value} {k : Nat} {x : Int} {t : Tok} {io : Obj} {f : Nat → List Int} {ks : List Int} {Q : Unit → Shared → Prop}
    (F : Fr h₀ L s.heap m) (N : News h₀ L s.heap big) (hD : (D, W.listOf rows.toArray k) ∈ big) (hit : (it, io) ∈ big) (hcI : io.cls = .type "list_iterator") (hDi : @Ne Nat D it) (hsub : ∀ p ∈ tl ++ news, p ∈ big) (hnews : ∀ p ∈ news, p.1 ≠ D ∧ p.1 ≠ it)
    (hR : RowsAt w (tl ++ news) rows f) (hr : Row prg w pS big d₁ ks) (h0 : 0 ≤ x) (h1 : x < (rows.length : Int)) (h64 : rows.length ≤ 64)
    (h : ∀ h' rows' tl', rows'.length = rows.length → Fr h₀ L h' m → News h₀ L h' ((it, io) :: (D, W.listOf rows'.toArray k) :: (tl' ++ news)) → (∀ p ∈ tl' ++ news, p.1 ≠ D ∧ p.1 ≠ it) → RowsAt w (tl' ++ news) rows' (fun j => if j = x.toNat then ks else f j) → Q () { s with heap := h' }) :
    wpAny (model prg w) A (setItem (.ref D) (.int x t) (.ref d₁)) Q E s := by
  have hmem : ∀ p ∈ big, p.1 ≠ D → p.1 ≠ it → p ∈ big.filter (fun p => decide (p.1 ≠ D) && decide (p.1 ≠ it)) ++ news := fun p hp e1 e2 => List.mem_append_left _ (List.mem_filter.mpr ⟨hp, by simp [e1, e2]⟩)
  have hoff : ∀ p ∈ big.filter (fun p => decide (p.1 ≠ D) && decide (p.1 ≠ it)) ++ news, p.1 ≠ D ∧ p.1 ≠ it := by
    intro p hp
    rcases List.mem_append.mp hp with hp | hp
    · simpa using (List.mem_filter.mp hp).2
    · exact hnews p hp
  have hin : ∀ p ∈ big.filter (fun p => decide (p.1 ≠ D) && decide (p.1 ≠ it)) ++ news, p ∈ big := by
    intro p hp
    rcases List.mem_append.mp hp with hp | hp
    · exact (List.mem_filter.mp hp).1
    · exact hsub p (List.mem_append_right _ hp)
  refine set_at (n := k) (pre := []) (post := (it, io) :: (big.filter (fun p => decide (p.1 ≠ D) && decide (p.1 ≠ it)) ++ news)) F (fun p hp => ?_) (fun p hp => nomatch hp) ?_ h0 (by rw [List.size_toArray]; exact h1) (by rw [List.size_toArray]; exact h64) fun h' F' N' => ?_
  · rcases List.mem_cons.mp hp with rfl | hp
    · exact N _ hD
    rcases List.mem_cons.mp hp with rfl | hp
    · exact N _ hit
    exact N p (hin p hp)
  · intro p hp
    rcases List.mem_cons.mp hp with rfl | hp
    · exact fun e => hDi e.symm
    exact (hoff p hp).1
  · refine h h' (rows.set x.toNat (.ref d₁)) (big.filter (fun p => decide (p.1 ≠ D) && decide (p.1 ≠ it))) (by simp) F' (fun p hp => N' p ?_) hoff ?_
    · simp only [List.nil_append, List.mem_cons, List.setIfInBounds_toArray] at hp ⊢
      rcases hp with hp | hp | hp <;> simp only [hp, true_or, or_true]
    · intro j hj
      rw [List.length_set] at hj
      by_cases e : j = x.toNat
      · subst e
        refine ⟨d₁, by simp [hj], ?_⟩
        dsimp only
        rw [if_pos rfl]
        exact hr.part N hD rfl hit hcI hmem
      · obtain ⟨d, hd, hr'⟩ := hR j hj
        refine ⟨d, by rw [List.getElem?_set_ne (Ne.symm e)]; exact hd, ?_⟩
        dsimp only
        rw [if_neg e]
        exact (hr'.mono hsub).part N hD rfl hit hcI hmem

theorem row_one2 {prog : Program} {w : World} {A : Around} {E : Value → Shared → Prop} {s : Shared} {h₀ : Heap} {L d a : Addr} {m : Str → Option Value} {P : Str} {k : Int} {t t₁ t₂ t₃ : Tok} {rest : List (Addr × Obj)} {Q : Unit → Shared → Prop} (hu : A.units < cLine)
    (F : Fr h₀ L s.heap m) (N : News h₀ L s.heap ((a, pk P k t₁ t₂ t₃) :: (d, { cls := .type "dict", data := .dict #[] }) :: rest)) (hda : d < a) (hap : ∀ p ∈ rest, p.1 < d)
    (h : ∀ h' o', Fr h₀ L h' m → News h₀ L h' ((d, o') :: (a, pk P k t₁ t₂ t₃) :: rest) → RowObj prog w P ((a, pk P k t₁ t₂ t₃) :: rest) o' [k] → Q () { s with heap := h', toks := s.toks + 4 }) :
    wpAny (model prog w) A (dictSet d (.ref a) (.int 1 t)) Q E s := by
  refine row_one (rest := (a, pk P k t₁ t₂ t₃) :: rest) hu F N (.tail _ (.head _)) ?_ ?_ (.head _) h
  · intro p hp
    simp only [List.mem_cons] at hp ⊢
    rcases hp with hp | hp <;> simp only [hp, true_or, or_true]
  · intro p hp
    rcases List.mem_cons.mp hp with rfl | hp
    · exact Nat.ne_of_gt hda
    · exact Nat.ne_of_lt (hap p hp)

theorem theres_snoc (ps : List (Int × Int)) (x y j : Int) : theres (ps ++ [(x, y)]) [] j = theres ps [] j ++ ((if x = j then [y] else []) ++ (if y = j then [x] else [])) := by
  unfold theres
  rw [List.flatMap_append]
  simp

theorem theres_new {ps : List (Int × Int)} {i : Nat} {x y : Int} (hnd : ∀ j, (theres ps [] j).Nodup) (hi : ps[i]? = some (x, y)) : y ∉ theres (ps.take i) [] x ∧ x ∉ theres (ps.take i) [] y := by
  have e : ∀ j, theres ps [] j = theres (ps.take (i + 1)) [] j ++ theres (ps.drop (i + 1)) [] j := fun j => by
    unfold theres
    rw [← List.flatMap_append, List.take_append_drop]
  have e2 : ∀ j, theres (ps.take (i + 1)) [] j = theres (ps.take i) [] j ++ ((if x = j then [y] else []) ++ (if y = j then [x] else [])) := fun j => by
    rw [List.take_add_one, hi]
    exact theres_snoc _ _ _ _
  have nd : ∀ j, (theres (ps.take i) [] j ++ ((if x = j then [y] else []) ++ (if y = j then [x] else []))).Nodup := fun j => by
    have := hnd j
    rw [e j] at this
    rw [← e2 j]
    exact (List.nodup_append.mp this).1
  constructor
  · have := (List.nodup_append.mp (nd x)).2.2
    intro hm
    exact this y hm y (by simp) rfl
  · have := (List.nodup_append.mp (nd y)).2.2
    intro hm
    exact this x hm x (by simp) rfl
end Mine
end

section
open PySem PySem.Spec PySem.Calls PySem.W PyProof.Rows PyProof.Rows.LCg
set_option Elab.async false
set_option maxRecDepth 100000
set_option maxHeartbeats 8000000
namespace Mine
local macro_rules | `(tactic| walk_at "nostop") => `(tactic| ((fail_if_success (with_reducible show wpAny _ _ (exec (Stmt.For _ _ _ _ _) _) _ _ _)); (fail_if_success (with_reducible show wpAny _ _ (eval (Expr.ListComp _ _ _ _) _) _ _ _)); (fail_if_success (with_reducible show wpAny _ _ (exec (Stmt.Assign _ (Expr.ListComp _ _ _ _) _) _) _ _ _))))
local macro_rules | `(tactic| walk_at "S") => `(tactic| repeat' (first | (k_unfold; (try dsimp only)) | (k_end; wrow_close) | (walk_at "nostop"; walk1) | (dsimp only; walk_at "nostop"; walk1) | (leave1; walk_say "STEP leave1"; try dsimp only) | fail "no step"))
local macro_rules | `(tactic| k_all) => `(tactic| assumption)
local macro_rules | `(tactic| size_fits) => `(tactic| with_reducible assumption)

theorem counts_spec (w : World) (lt : Addr) (its : Array Value) (n : Nat) (ps : List (Int × Int)) (K : Int) (tm : Tok) (news : List (Addr × Obj)) (hm : (lt, W.listOf its n) ∈ news) (hP : PairsAt news its.toList ps) (h16 : ps.length ≤ 16) (hN1 : 1 ≤ K) (hN16 : K ≤ 16)
    (hin : ∀ p ∈ ps, 0 ≤ p.1 ∧ p.1 ≤ K ∧ 0 ≤ p.2 ∧ p.2 ≤ K) (hne : ∀ p ∈ ps, p.1 ≠ p.2) (hnd : ∀ x, (theres ps [] x).Nodup) :
    Spec 20 w 58 [.ref lt, .int K tm] news (fun _ => True) (fun r tl => ∃ cl its n, r = .ref cl ∧ (cl, W.listOf its n) ∈ tl ∧ IntsAre its.toList ((rangeKs 0 (K + 1).toNat).map fun x => ((theres ps [] x).length : Int))) := by
  unfold Spec
  k_fill
  intro mean mg mb dp un gd cn cs a ccd cl outer A₀ base h₀ L m s Q E B F X N T hk _ hdp hun hret
  refine wpAny_call ?_
  k_dflt ktr_enter
  rename_i g' L' h' FG' F' N' B' X' T'
  clear F B X T
  walk_at "S"
  refine comp_use (by with_unfolding_all rfl) (by rfl) (by rfl) (by decide) ?_ (by intro _; with_unfolding_all rfl)
  walk_at "S"
  rename_i hr F1 N1 _
  refine src_range (n := (K + 1).toNat) (by rfl) (.plain (by decide) (by rfl)) (fun _ _ i ys nw => ∃ tl, nw = tl ++ news ∧ ys.length = i ∧ RowsAt w nw ys (fun _ => [])) (by omega) F1 N1 hr ?_ ?_
    (fun C _ => ⟨[], rfl, rfl, fun j hj => absurd hj (Nat.not_lt_zero _)⟩) (fun _ _ _ _ _ h => by obtain ⟨tl, _, h, _⟩ := h; omega) ?_ ?_
  · exact small_one (by decide) (by decide) (by omega) (by omega)
  · rw [rangeSize_nat]; congr 2; omega
  · rintro I _ C D i t ys nw h tk io mc oC ⟨tl, rfl, hyl, hR⟩ hi Bk E'
    refine asg_name Bk (by rfl) (by rfl) fun h₁ oC₁ Bk₁ => ?_
    refine wpAny_tests_nil ?_
    simp only [if_true]
    have F2 := Bk₁.F
    have N2 := Bk₁.N
    have hC1 := Bk₁.c
    have hoff := Bk₁.off
    walk_at "S"
    rename_i d2 hq o2 F5 N5 lo5 hs5 _ _ _ l5
    refine CompTurn.keep (news' := (d2, o2) :: (tl ++ news)) Bk₁ F5 N5 ?_ ?_ ⟨(d2, o2) :: tl, rfl, by simp [hyl], ?_⟩
    · intro p hp
      simp only [List.mem_cons] at hp ⊢
      rcases hp with hp | hp | hp | hp | hp <;> simp only [hp, true_or, or_true]
    · intro p hp
      rcases List.mem_cons.mp hp with rfl | hp
      · exact ⟨Nat.ne_of_gt l5.1, Nat.ne_of_gt l5.2.1, Nat.ne_of_gt l5.2.2.1⟩
      · exact hoff p hp
    · intro j hj
      simp only [Option.toList_some, List.length_append, List.length_singleton] at hj
      by_cases e : j < ys.length
      · obtain ⟨d, hd, hr⟩ := hR j e
        exact ⟨d, by rw [Option.toList_some, List.getElem?_append_left e]; exact hd, hr.mono fun p hp => .tail _ hp⟩
      · have : j = ys.length := by omega
        subst this
        exact ⟨d2, by simp, lo5, o2, .head _, RowObj.nil hs5⟩
  · rintro _ D C h tk mc ys nw ⟨tl, rfl, hyl, hR⟩ F3 N3 hc h0 hL hD off
    refine post_use (by rfl) (by rfl) (by rfl) F3 N3 hc h0 hL hD off fun h₁ F4 N4 => ?_
    clear F3 N3 F1 N1
    show wpAny _ _ _ _ _ _
    walk_at "S"
    refine wpAny_For ?_ (by intro _; with_unfolding_all rfl)
    walk_at "S"
    have hll : ∀ (h : Heap) tl2 o, News g' L' h ((D, o) :: (tl2 ++ news)) → h.IsList lt its.toList.toArray := fun h tl2 o N => by
      rw [Array.toArray_toList]; exact ⟨_, (N (lt, _) (.tail _ (List.mem_append_right _ hm))).1, rfl, _, rfl⟩
    refine for_list (m₀ := _) (fun i m nw => ∃ rows k tl2, nw = (D, W.listOf rows.toArray k) :: (tl2 ++ news) ∧ (∀ p ∈ tl2 ++ news, p.1 ≠ D) ∧ rows.length = (K + 1).toNat ∧ RowsAt w (tl2 ++ news) rows (fun j => theres (ps.take i) [] (j : Int)) ∧ m "calls" = some (.ref D) ∧ i ≤ ps.length) 17 (by rfl) F4 N4 ?_ ?_ ?_ ?_
    · exact ⟨ys, _, tl, rfl, fun p hp => (off p hp).2, hyl, hR, rfl, Nat.zero_le _⟩
    · rintro i m nw h ⟨rows, k, tl2, rfl, h1, h2, h3, h4, h5⟩ F5 N5
      exact ⟨its.toList, hll h _ _ N5, by rw [hP.length]; exact h5, by rw [hP.length]; omega⟩
    · rintro i v m nw h tk it io its₂ ⟨rows, k, tl2, rfl, h1, h2, h3, h4, h5⟩ F5 N5 hoff hioc hlist hv E'
      have hxs : its₂ = its.toList := by
        obtain ⟨o, ho, _, _, hd⟩ := hlist
        have h2 := (N5 (lt, _) (.tail _ (.tail _ (List.mem_append_right _ hm)))).1
        rw [ho] at h2
        rw [Option.some.inj h2] at hd
        injection hd with h4 _
        simpa using (congrArg Array.toList h4).symm
      subst hxs
      obtain ⟨T, x, t, y, u, rfl, hpi, hT⟩ := hP.get hv
      have F6 := fr_of F5 (pin (fun _ => rfl) h4)
      clear F5 F4 N4
      refine asg_pairF (by rfl) ⟨_, (N5 (T, tup2 x t y u) (.tail _ (.tail _ (List.mem_append_right _ hT)))).1, rfl, _, rfl⟩ (by rfl) (by rfl) (by rfl) F6 N5 fun h' tk F7 N7 => ?_
      clear F6 N5
      have hz := hin _ (List.mem_of_getElem? hpi)
      dsimp only at hz
      walk_at "S"
      obtain ⟨d1, hd1, hr1⟩ := h3 x.toNat (by omega)
      refine item_at N7 (.tail _ (.head _)) (by omega) (by omega) (by rw [List.getElem?_toArray]; exact hd1) ?_
      walk_at "S"
      refine dict_one F7 N7 T'.nolimit fun dn hn F8 N8 lA lo8 => ?_
      walk_at "S"
      rename_i T1 h9 F9 N9 l9
      refine row_one2 (P := pS) (by show un + 3 < cLine; omega) F9 N9 l9.1 lA fun h10 o10 F10 N10 hr10 => ?_
      walk_at "S"
      dsimp only at hr1
      have hx1 : y ∉ theres (ps.take i) [] ((x.toNat : Nat) : Int) := by
        rw [Int.toNat_of_nonneg hz.1]; exact (theres_new hnd hpi).1
      have hlen : ∀ j, (theres (ps.take i) [] j).length ≤ 32 := fun j => by
        have := theres_len (ps.take i) [] j
        rw [List.length_take] at this
        omega
      have hDi : @Ne Nat D it := hoff (D, _) (.head _)
      have hnw : ∀ p ∈ news, p.1 ≠ D ∧ p.1 ≠ it := fun p hp => ⟨h1 p (List.mem_append_right _ hp), hoff p (.tail _ (List.mem_append_right _ hp))⟩
      have hl1 : (rows.length : Int) = K + 1 := by omega
      refine (add_spec w d1 dn _ _ y (hr1.mono fun p hp => .tail _ (.tail _ (.tail _ (.tail _ hp)))) ⟨lo8, o10, .head _, hr10.mono fun p hp => .tail _ hp⟩ hx1 (by have := hlen ((x.toNat : Nat) : Int); omega)).use (dp := dp + 1) (un := un + 3) B' F10 X' N10 T' (by rfl) True.intro (by omega) (by omega) ?_
      rintro r tl3 h11 tk11 F11 N11 ⟨d11, rfl, hr11⟩
      walk_at "S"
      refine store_row F11 N11 (List.mem_append_right _ (.tail _ (.tail _ (.tail _ (.head _))))) (List.mem_append_right _ (.tail _ (.tail _ (.head _)))) hioc hDi (fun p hp => List.mem_append_right _ (.tail _ (.tail _ (.tail _ (.tail _ hp))))) hnw h3 hr11 hz.1 (by omega) (by omega) fun h12 rows2 tl4 hl2 F12 N12 hoff2 hR2 => ?_
      clear F11 N11 F10 N10 F9 N9 h3 hr1 hr11 hr10 hx1
      walk_at "S"
      obtain ⟨d3, hd3, hr3⟩ := hR2 y.toNat (by omega)
      dsimp only at hr3
      rw [if_neg (by have := hne _ (List.mem_of_getElem? hpi); dsimp only at this; omega)] at hr3
      have F12 := F12
      have N12 := N12
      refine item_at N12 (.tail _ (.head _)) (by omega) (by omega) (by rw [List.getElem?_toArray]; exact hd3) ?_
      walk_at "S"
      refine dict_one F12 N12 T'.nolimit fun dn2 hn2 F13 N13 lA2 lo13 => ?_
      walk_at "S"
      rename_i T2 h14 F14 N14 l14
      refine row_one2 (P := pS) (by show un + 3 < cLine; omega) F14 N14 l14.1 lA2 fun h15 o15 F15 N15 hr15 => ?_
      walk_at "S"
      have hx2 : x ∉ theres (ps.take i) [] ((y.toNat : Nat) : Int) := by
        rw [Int.toNat_of_nonneg hz.2.2.1]; exact (theres_new hnd hpi).2
      refine (add_spec w d3 dn2 _ _ x (hr3.mono fun p hp => .tail _ (.tail _ (.tail _ (.tail _ hp)))) ⟨lo13, o15, .head _, hr15.mono fun p hp => .tail _ hp⟩ hx2 (by have := hlen ((y.toNat : Nat) : Int); omega)).use (dp := dp + 1) (un := un + 3) B' F15 X' N15 T' (by rfl) True.intro (by omega) (by omega) ?_
      rintro r tl5 h16' tk16 F16 N16 ⟨d16, rfl, hr16⟩
      walk_at "S"
      refine store_row F16 N16 (List.mem_append_right _ (.tail _ (.tail _ (.tail _ (.head _))))) (List.mem_append_right _ (.tail _ (.tail _ (.head _)))) hioc hDi (fun p hp => List.mem_append_right _ (.tail _ (.tail _ (.tail _ (.tail _ hp))))) hnw hR2 hr16 hz.2.2.1 (by omega) (by omega) fun h17 rows3 tl6 hl3 F17 N17 hoff3 hR3 => ?_
      clear F16 N16 F15 N15 F14 N14 hR2 hr3 hr15 hr16 hx2
      walk_at "S"
      have hxy : x ≠ y := hne _ (List.mem_of_getElem? hpi)
      have ex : ((x.toNat : Nat) : Int) = x := Int.toNat_of_nonneg hz.1
      have ey : ((y.toNat : Nat) : Int) = y := Int.toNat_of_nonneg hz.2.2.1
      refine ⟨h17, _, _, _, rfl, F17, N17, ?_, rows3, k, tl6, rfl, fun p hp => (hoff3 p hp).1, by omega, ?_, rfl, by have := (List.getElem?_eq_some_iff.mp hpi).1; omega⟩
      · intro p hp
        rcases List.mem_cons.mp hp with rfl | hp
        · exact hDi
        · exact (hoff3 p hp).2
      · intro j hj
        obtain ⟨d, hd, hr⟩ := hR3 j hj
        refine ⟨d, hd, ?_⟩
        dsimp only at hr
        rw [List.take_add_one, hpi]
        show Row _ _ _ _ _ (theres (ps.take i ++ [(x, y)]) [] (j : Int))
        rw [theres_snoc]
        by_cases e1 : j = y.toNat
        · subst e1
          rw [if_pos rfl] at hr
          rw [ey] at hr ⊢
          rw [if_neg hxy, if_pos rfl]
          exact hr
        · rw [if_neg e1] at hr
          by_cases e2 : j = x.toNat
          · subst e2
            rw [if_pos rfl] at hr
            rw [ex] at hr ⊢
            rw [if_pos rfl, if_neg (Ne.symm hxy), List.append_nil]
            exact hr
          · rw [if_neg e2] at hr
            rw [if_neg (by omega), if_neg (by omega), List.append_nil, List.append_nil]
            exact hr
    · rintro i m nw h tk its₂ ⟨rows, k, tl2, rfl, h1, h2, h3, h4, h5⟩ F5 N5 hlist hi
      have hxs : its₂ = its.toList := by
        obtain ⟨o, ho, _, _, hd⟩ := hlist
        have h2 := (N5 (lt, _) (.tail _ (List.mem_append_right _ hm))).1
        rw [ho] at h2
        rw [Option.some.inj h2] at hd
        injection hd with h4 _
        simpa using (congrArg Array.toList h4).symm
      rw [hxs, hP.length] at hi
      subst hi
      rw [List.take_length] at h3
      have F6 := fr_of F5 (pin (fun _ => rfl) h4)
      clear F5 F4 N4
      walk_at "S"
      refine comp_eval (by with_unfolding_all rfl) (by rfl) (by decide) ?_ (by intro _; with_unfolding_all rfl)
      walk_at "S"
      refine src_list (its := rows) (by rfl) (.plain (by decide) (by rfl)) (fun _ _ i ys nw => nw = (D, W.listOf rows.toArray k) :: (tl2 ++ news) ∧ IntsAre ys ((List.range i).map fun j => ((theres ps [] ((j : Nat) : Int)).length : Int)) ∧ ys.length = i) (by omega) F6 N5 ⟨_, (N5 (D, _) (.head _)).1, rfl, _, rfl⟩
        (fun C _ => ⟨rfl, .nil, rfl⟩) (fun _ _ _ _ _ h => Nat.le_of_eq h.2.2) (fun N C i ys nw h hJ _ N => by rw [hJ.1] at N; exact ⟨_, (N (D, _) (.head _)).1, rfl, _, rfl⟩) ?_ ?_
      · rintro I _ C D2 i v ys nw h tk io mc oC ⟨rfl, hI, hyl⟩ hv Bk E'
        obtain ⟨d, hd, hr⟩ := h3 i (List.getElem?_eq_some_iff.mp hv).1
        dsimp only at hr
        have ev : v = .ref d := by rw [hd] at hv; exact (Option.some.inj hv).symm
        subst ev
        refine asg_name Bk (by rfl) (by rfl) fun h₁ oC₁ Bk₁ => ?_
        refine wpAny_tests_nil ?_
        simp only [if_true]
        have F2 := Bk₁.F
        have N2 := Bk₁.N
        have hC1 := Bk₁.c
        have hx1 : (fun z => if z = Str.ofString "row" then some (.ref d) else mc z) (Str.ofString "row") = some (.ref d) := by rfl
        walk_at "S"
        refine (count_spec w d _ _ (hr.mono fun p hp => .tail _ (.tail _ (.tail _ (.tail _ hp)))) (by have := theres_len ps [] (i : Int); omega)).use (dp := dp + 1) (un := un + 3) B' F2 X' N2 T' (by rfl) True.intro (by omega) (by omega) ?_
        rintro r tl3 h3' tk3 F3 N3 ⟨tkc, rfl⟩
        refine CompTurn.keep Bk₁ F3 N3 (fun p hp => List.mem_append_right _ hp) Bk₁.off ⟨rfl, ?_, by simp [hyl]⟩
        rw [List.range_succ, List.map_append]
        exact hI.append (.cons _ _ .nil)
      · rintro _ D2 C h tk mc ys nw ⟨rfl, hI, hyl⟩ F3 N3 hc h0 hL hD off2
        refine post_eval F3 N3 hc h0 hL hD off2 fun h₁ F4 N4 => ?_
        refine leaveK_ F4 N4 fun kF kN => ?_
        refine hret _ ((D2, lst ys) :: (D, W.listOf rows.toArray k) :: tl2) _ _ kF kN ⟨D2, ys.toArray, _, rfl, .head _, ?_⟩
        have e : ((rangeKs 0 (K + 1).toNat).map fun x => ((theres ps [] x).length : Int)) = (List.range rows.length).map fun j => ((theres ps [] ((j : Nat) : Int)).length : Int) := by
          unfold rangeKs
          rw [List.map_map, h2]
          refine List.map_congr_left fun j _ => ?_
          simp
        rw [e]
        simpa using hI
end Mine
end

section
open PySem PySem.Spec PySem.Calls PySem.W PyProof.Rows PyProof.Rows.LCg
set_option Elab.async false
set_option maxRecDepth 100000
set_option maxHeartbeats 8000000
namespace Mine
local macro_rules | `(tactic| walk_at "nostop") => `(tactic| ((fail_if_success (with_reducible show wpAny _ _ (exec (Stmt.For _ _ _ _ _) _) _ _ _)); (fail_if_success (with_reducible show wpAny _ _ (exec (Stmt.While _ _ _ _) _) _ _ _)); (fail_if_success (with_reducible show wpAny _ _ (eval (Expr.ListComp _ _ _ _) _) _ _ _)); (fail_if_success (with_reducible show wpAny _ _ (exec (Stmt.Assign _ (Expr.ListComp _ _ _ _) _) _) _ _ _))))
local macro_rules | `(tactic| walk_at "S") => `(tactic| repeat' (first | (k_unfold; (try dsimp only)) | (k_end; wrow_close) | (walk_at "nostop"; walk1) | (dsimp only; walk_at "nostop"; walk1) | (leave1; walk_say "STEP leave1"; try dsimp only) | fail "no step"))
local macro_rules | `(tactic| k_all) => `(tactic| assumption)
local macro_rules | `(tactic| size_fits) => `(tactic| with_reducible assumption)

local macro_rules | `(tactic| walk_at "enterD") => `(tactic| k_dflt (refine' code_def ?k1 ?k2 ?k3 ?k4 ?k5 ?kA ?kF ?kK ?k6 ?k7 ?k8 ?k9 ?kB ?_ ?c2 ?c3 ?c4 ?c5; (case kA => exact rfl); (case kF => exact rfl); (case kK => assumption); (case k1 => k_asm); (case k2 => k_asm); (case k3 => k_asm); (case k4 => k_asm); (case k5 => k_asm); (case k6 => k_is); (case k7 => k_is); (case k8 => ktr_room); (case k9 => exact kp_binds (by k_in) (fun S => rfl)); (case c5 => decide); (case kB => exact locs rfl); (case c2 => exact rfl); (case c3 => exact rfl); (case c4 => exact rfl); k_whole; intro g' L' h' FG' F' N' B' X' T'; (try dsimp only); (try k_fold)))

section
variable {prog : Program} {w : World} {A : Around} {E : Value → Shared → Prop} {s : Shared} {env : Env} {h₀ : Heap}
/-- what a turn of a while leaves -/
def WhileEnd (h₀ : Heap) (L : Addr) (J : (Str → Option Value) → List (Addr × Obj) → Prop) (R : Result → Shared → Prop) (s : Shared) (f : Flow) (s' : Shared) : Prop :=
  match f with
  | .brk => R (.ok .next) s'
  | .ret v => R (.ok (.ret v)) s'
  | _ => ∃ h' tk' m' news', s' = { s with heap := h', toks := tk' } ∧ Fr h₀ L h' m' ∧ News h₀ L h' news' ∧ J m' news'

theorem while_ {test : PySem.Expr} {body : List Stmt} {R : Result → Shared → Prop} {m₀ : Str → Option Value} {news₀ : List (Addr × Obj)} (J : Nat → (Str → Option Value) → List (Addr × Obj) → Prop) (n : Nat)
    (F : Fr h₀ env.locals s.heap m₀) (N : News h₀ env.locals s.heap news₀) (hj : J n m₀ news₀)
    (turn : ∀ n m news h tk, J n m news → Fr h₀ env.locals h m → News h₀ env.locals h news → ∀ E',
      wpAny (model prog w) A (isTrue test env (eval test env)) (fun b s₂ =>
        if b then wpAny (model prog w) A (execs body env) (WhileEnd h₀ env.locals (fun m nw => ∃ n', n' < n ∧ J n' m nw) R { s with heap := h, toks := tk }) E' s₂ else R (.ok .next) s₂) E' { s with heap := h, toks := tk }) :
    codeAny (model prog w) A (.whileLoop test body [] env) R s := by
  refine codeAny_whileLoop (fun k s' => ∃ m news h tk, s' = { s with heap := h, toks := tk } ∧ Fr h₀ env.locals h m ∧ News h₀ env.locals h news ∧ J k m news) ?_ n ⟨m₀, news₀, s.heap, s.toks, rfl, F, N, hj⟩
  rintro k s' ⟨m, news, h, tk, rfl, F', N', hJ⟩
  refine wpAny_mono (turn k m news h tk hJ F' N' _) (fun b s₂ h₂ => ?_) fun _ _ e => e
  cases b with
  | false =>
    simp only [Bool.false_eq_true, if_false] at h₂ ⊢
    exact wpAny_execs_nil h₂
  | true =>
    simp only [if_true] at h₂ ⊢
    refine wpAny_mono h₂ (fun f s₃ h₃ => ?_) fun _ _ e => e
    have fin : (∃ h' tk' m' news', s₃ = { ({ s with heap := h, toks := tk } : Shared) with heap := h', toks := tk' } ∧ Fr h₀ env.locals h' m' ∧ News h₀ env.locals h' news' ∧ ∃ n', n' < k ∧ J n' m' news') →
        ∃ m', m' < k ∧ ∃ m news h tk, s₃ = { s with heap := h, toks := tk } ∧ Fr h₀ env.locals h m ∧ News h₀ env.locals h news ∧ J m' m news := by
      rintro ⟨h', tk', m', news', rfl, F2, N2, n', hn, hJ2⟩
      exact ⟨n', hn, m', news', h', tk', rfl, F2, N2, hJ2⟩
    cases f with
    | ret v => exact h₃
    | brk => exact h₃
    | next => exact fin h₃
    | cont => exact fin h₃
end

theorem bis_spec (w : World) (lt : Addr) (xs : List Value) (n : Nat) (x : Value) (lss : Nat → Bool) (news : List (Addr × Obj)) (hm : (lt, W.listOf xs.toArray n) ∈ news) (h16 : xs.length ≤ 32)
    (hmono : ∀ i j, i ≤ j → j < xs.length → lss j = true → lss i = true)
    (hcmp : ∀ (A : Around) (s : Shared) (Q : Value → Shared → Prop) (E : Value → Shared → Prop) (h₀ : Heap) (L : Addr) (i : Nat) (v : Value), A.handled = none → A.units + 100 < cLine → xs[i]? = some v → News h₀ L s.heap news → (∀ tk, Q (.bool (lss i)) { s with toks := tk }) → wpAny (model prg w) A (compareOp .Lt v x) Q E s) :
    Spec 10 w 32 [.ref lt, x] news (fun _ => True) (fun r _ => ∃ j t, r = .int ((j : Nat) : Int) t ∧ j ≤ xs.length ∧ (∀ i, i < j → lss i = true) ∧ (∀ i, j ≤ i → i < xs.length → lss i = false)) := by
  unfold Spec
  k_fill
  intro mean mg mb dp un gd cn cs a ccd cl outer A₀ base h₀ L m s Q E B F X N T hk _ hdp hun hret
  refine wpAny_call ?_
  walk_at "enterD"
  rename_i g' L' h' FG' F' N' B' X' T'
  clear F B X T
  walk_at "S"
  refine kun_lenL (k := (xs.length : Int)) ⟨_, (N' _ hm).1, rfl, _, rfl⟩ (by simp) (by omega) ?_
  walk_at "S"
  rename_i F2 N2
  refine wpAny_While ?_
  refine while_ (fun k m nw => nw = news ∧ ∃ lo hi tl th, m (Str.ofString "lo") = some (.int ((lo : Nat) : Int) tl) ∧ m (Str.ofString "hi") = some (.int ((hi : Nat) : Int) th) ∧ m (Str.ofString "a") = some (.ref lt) ∧ m (Str.ofString "x") = some x ∧ hi ≤ xs.length ∧ lo ≤ hi ∧ (∀ i, i < lo → lss i = true) ∧ (∀ i, hi ≤ i → i < xs.length → lss i = false) ∧ k = hi - lo) xs.length F2 N2
    ⟨rfl, 0, xs.length, _, _, rfl, rfl, rfl, rfl, Nat.le_refl _, Nat.zero_le _, fun i hi => absurd hi (Nat.not_lt_zero _), fun i h1 h2 => absurd h2 (Nat.not_lt.mpr h1), rfl⟩ ?_
  rintro k m nw h tk ⟨rfl, lo, hi, tl, th, e1, e2, e3, e4, h1, h2, h3, h4, rfl⟩ F3 N3 E'
  have F4 := fr_of F3 (pin (pin (pin (pin (fun _ => rfl) e4) e3) e2) e1)
  clear F3 F2 N2
  walk_at "S"
  · rename_i hlh h5 F5 N5
    have hlh' : lo < hi := by omega
    have eM : ((lo : Int) + (hi : Int)).fdiv 2 = (((lo + hi) / 2 : Nat) : Int) := by
      rw [Int.fdiv_eq_ediv_of_nonneg _ (by decide)]; omega
    rw [eM] at F5 ⊢
    have hM1 : lo ≤ (lo + hi) / 2 := by omega
    have hM2 : (lo + hi) / 2 < hi := by omega
    clear eM
    generalize (lo + hi) / 2 = M at F5 hM1 hM2 ⊢
    have hx : xs[M]? = some (xs[M]'(by omega)) := List.getElem?_eq_getElem (by omega)
    generalize (xs[M]'(by omega)) = v at hx
    refine item_at N5 hm (by omega) (by omega) (by rw [List.getElem?_toArray]; exact hx) ?_
    walk_at "S"
    refine hcmp _ _ _ _ _ _ M v (by rfl) (by show un + 3 + 100 < cLine; omega) hx N5 fun tk' => ?_
    cases hb : lss M with
    | true =>
      walk_at "S"
      rename_i h6 F6 N6
      refine ⟨_, _, _, _, rfl, F6, N6, hi - (M + 1), by omega, rfl, M + 1, hi, _, _, rfl, rfl, rfl, rfl, h1, by omega, ?_, h4, rfl⟩
      intro i hi'
      exact hmono i M (by omega) (by omega) hb
    | false =>
      walk_at "S"
      rename_i h6 F6 N6
      refine ⟨_, _, _, _, rfl, F6, N6, M - lo, by omega, rfl, lo, M, _, _, rfl, rfl, rfl, rfl, by omega, by omega, h3, ?_, rfl⟩
      intro i hi1 hi2
      cases hc : lss i with
      | false => rfl
      | true => exact absurd (hmono M i hi1 hi2 hc) (by rw [hb]; decide)
  · rename_i hlh
    refine leaveK_ F4 N3 fun kF kN => ?_
    have e : lo = hi := by omega
    subst e
    exact hret _ [] _ _ kF kN ⟨lo, _, rfl, h1, h3, h4⟩
theorem bis_spec4 (w : World) (lt : Addr) (xs : List Value) (n : Nat) (x : Value) (t0 : Tok) (lss : Nat → Bool) (news : List (Addr × Obj)) (hm : (lt, W.listOf xs.toArray n) ∈ news) (h16 : xs.length ≤ 32)
    (hmono : ∀ i j, i ≤ j → j < xs.length → lss j = true → lss i = true)
    (hcmp : ∀ (A : Around) (s : Shared) (Q : Value → Shared → Prop) (E : Value → Shared → Prop) (h₀ : Heap) (L : Addr) (i : Nat) (v : Value), A.handled = none → A.units + 100 < cLine → xs[i]? = some v → News h₀ L s.heap news → (∀ tk, Q (.bool (lss i)) { s with toks := tk }) → wpAny (model prg w) A (compareOp .Lt v x) Q E s) :
    Spec 10 w 32 [.ref lt, x, .int 0 t0, .none] news (fun _ => True) (fun r _ => ∃ j t, r = .int ((j : Nat) : Int) t ∧ j ≤ xs.length ∧ (∀ i, i < j → lss i = true) ∧ (∀ i, j ≤ i → i < xs.length → lss i = false)) := by
  unfold Spec
  k_fill
  intro mean mg mb dp un gd cn cs a ccd cl outer A₀ base h₀ L m s Q E B F X N T hk _ hdp hun hret
  refine wpAny_call ?_
  walk_at "enterD"
  rename_i g' L' h' FG' F' N' B' X' T'
  clear F B X T
  walk_at "S"
  refine kun_lenL (k := (xs.length : Int)) ⟨_, (N' _ hm).1, rfl, _, rfl⟩ (by simp) (by omega) ?_
  walk_at "S"
  rename_i F2 N2
  refine wpAny_While ?_
  refine while_ (fun k m nw => nw = news ∧ ∃ lo hi tl th, m (Str.ofString "lo") = some (.int ((lo : Nat) : Int) tl) ∧ m (Str.ofString "hi") = some (.int ((hi : Nat) : Int) th) ∧ m (Str.ofString "a") = some (.ref lt) ∧ m (Str.ofString "x") = some x ∧ hi ≤ xs.length ∧ lo ≤ hi ∧ (∀ i, i < lo → lss i = true) ∧ (∀ i, hi ≤ i → i < xs.length → lss i = false) ∧ k = hi - lo) xs.length F2 N2
    ⟨rfl, 0, xs.length, _, _, rfl, rfl, rfl, rfl, Nat.le_refl _, Nat.zero_le _, fun i hi => absurd hi (Nat.not_lt_zero _), fun i h1 h2 => absurd h2 (Nat.not_lt.mpr h1), rfl⟩ ?_
  rintro k m nw h tk ⟨rfl, lo, hi, tl, th, e1, e2, e3, e4, h1, h2, h3, h4, rfl⟩ F3 N3 E'
  have F4 := fr_of F3 (pin (pin (pin (pin (fun _ => rfl) e4) e3) e2) e1)
  clear F3 F2 N2
  walk_at "S"
  · rename_i hlh h5 F5 N5
    have hlh' : lo < hi := by omega
    have eM : ((lo : Int) + (hi : Int)).fdiv 2 = (((lo + hi) / 2 : Nat) : Int) := by
      rw [Int.fdiv_eq_ediv_of_nonneg _ (by decide)]; omega
    rw [eM] at F5 ⊢
    have hM1 : lo ≤ (lo + hi) / 2 := by omega
    have hM2 : (lo + hi) / 2 < hi := by omega
    clear eM
    generalize (lo + hi) / 2 = M at F5 hM1 hM2 ⊢
    have hx : xs[M]? = some (xs[M]'(by omega)) := List.getElem?_eq_getElem (by omega)
    generalize (xs[M]'(by omega)) = v at hx
    refine item_at N5 hm (by omega) (by omega) (by rw [List.getElem?_toArray]; exact hx) ?_
    walk_at "S"
    refine hcmp _ _ _ _ _ _ M v (by rfl) (by show un + 3 + 100 < cLine; omega) hx N5 fun tk' => ?_
    cases hb : lss M with
    | true =>
      walk_at "S"
      rename_i h6 F6 N6
      refine ⟨_, _, _, _, rfl, F6, N6, hi - (M + 1), by omega, rfl, M + 1, hi, _, _, rfl, rfl, rfl, rfl, h1, by omega, ?_, h4, rfl⟩
      intro i hi'
      exact hmono i M (by omega) (by omega) hb
    | false =>
      walk_at "S"
      rename_i h6 F6 N6
      refine ⟨_, _, _, _, rfl, F6, N6, M - lo, by omega, rfl, lo, M, _, _, rfl, rfl, rfl, rfl, by omega, by omega, h3, ?_, rfl⟩
      intro i hi1 hi2
      cases hc : lss i with
      | false => rfl
      | true => exact absurd (hmono M i hi1 hi2 hc) (by rw [hb]; decide)
  · rename_i hlh
    refine leaveK_ F4 N3 fun kF kN => ?_
    have e : lo = hi := by omega
    subst e
    exact hret _ [] _ _ kF kN ⟨lo, _, rfl, h1, h3, h4⟩
end Mine
end

section
open PySem PySem.Spec PySem.Calls PySem.W PyProof.Rows
open Sem (wp)
set_option Elab.async false
set_option maxRecDepth 100000
set_option maxHeartbeats 4000000
namespace Mine
section
variable {prog : Program} {w : World} {A : Around} {E : Value → Shared → Prop} {s : Shared}

theorem rich_lt {x y : Int} {t u : Tok} {Q : Value → Shared → Prop} (h : Q (.bool (decide (x < y))) s) : wpAny (model prog w) A (richCompare .Lt (.int x t) (.int y u)) Q E s :=
  richCompare_gives (op := .Lt) (T := "int") rfl rfl F.slot_int_lt F.entry_int_lt (F.args_int_lt_2 _ _) (gives_int_lt x y t u) (fun x => nomatch x) h
theorem rich_ge {x y : Int} {t u : Tok} {Q : Value → Shared → Prop} (h : Q (.bool (decide (x ≥ y))) s) : wpAny (model prog w) A (richCompare .GtE (.int x t) (.int y u)) Q E s :=
  richCompare_gives (op := .GtE) (T := "int") rfl rfl F.slot_int_ge F.entry_int_ge (F.args_int_ge_2 _ _) (gives_int_ge x y t u) (fun x => nomatch x) h

theorem tup_lt_tree {x₁ x₂ y₁ y₂ : Int} {t₁ t₂ u₁ u₂ : Tok} {a b : Addr} {R : Fin → Shared → Prop} (hoa : s.heap.get? a = some (tup2 x₁ t₁ x₂ t₂)) (hob : s.heap.get? b = some (tup2 y₁ u₁ y₂ u₂))
    (h : ∀ r, r = decide (x₁ < y₁ ∨ (x₁ = y₁ ∧ x₂ < y₂)) → R (.done (.ret (.bool r))) s) :
    wpAny (model prog w) A (Builtin.«tuple.__lt__» ⟨[.ref a, .ref b], []⟩) R E s := by
  have hTb : s.TypeIs (.ref b) "tuple" := ⟨_, hob, rfl⟩
  show wpAny _ _ (isInstance (.ref b) (.type "tuple") >>= _) _ _ s
  refine wpAny_bind (wpAny_isInstance hTb isSubtype_tuple_tuple ?_)
  rw [if_neg (by decide)]
  refine wpAny_bind (wpAny_tupleItemsOf hoa rfl ?_)
  refine wpAny_bind (wpAny_tupleItemsOf hob rfl ?_)
  refine wpAny_bind ?_
  refine wpAny_forIn_list _
    (fun rest r s' => r.1 = none ∧ s' = s ∧ ((rest = [(Value.int x₁ t₁, Value.int y₁ u₁), (.int x₂ t₂, .int y₂ u₂)])
      ∨ (x₁ = y₁ ∧ rest = [(.int x₂ t₂, .int y₂ u₂)]) ∨ (x₁ = y₁ ∧ x₂ = y₂ ∧ rest = [])))
    _ ?_ ?_ _ _ ⟨rfl, rfl, .inl rfl⟩
  · rintro ⟨p, q⟩ rest r s' ⟨hr, rfl, hrest⟩
    rcases hrest with e | ⟨h1, e⟩ | ⟨_, _, e⟩
    · simp only [List.cons.injEq, Prod.mk.injEq] at e
      obtain ⟨⟨rfl, rfl⟩, rfl⟩ := e
      refine wpAny_bind (wpAny_eqBool_int ?_)
      by_cases hk : x₁ = y₁
      · have e : (x₁ == y₁) = true := by simp [hk]
        rw [e, if_neg (by decide)]
        exact wpAny_pure ⟨rfl, rfl, .inr (.inl ⟨hk, rfl⟩)⟩
      · have e : (x₁ == y₁) = false := by simp [hk]
        rw [e, if_pos (by decide)]
        refine wpAny_bind (wpAny_rule (wpAny_bind (rich_lt ?_)))
        refine wpAny_bind (wpAny_pure (wpAny_pure (wpAny_pure (h _ ?_))))
        simp [hk]
    · simp only [List.cons.injEq, Prod.mk.injEq] at e
      obtain ⟨⟨rfl, rfl⟩, rfl⟩ := e
      refine wpAny_bind (wpAny_eqBool_int ?_)
      by_cases hk : x₂ = y₂
      · have e : (x₂ == y₂) = true := by simp [hk]
        rw [e, if_neg (by decide)]
        exact wpAny_pure ⟨rfl, rfl, .inr (.inr ⟨h1, hk, rfl⟩)⟩
      · have e : (x₂ == y₂) = false := by simp [hk]
        rw [e, if_pos (by decide)]
        refine wpAny_bind (wpAny_rule (wpAny_bind (rich_lt ?_)))
        refine wpAny_bind (wpAny_pure (wpAny_pure (wpAny_pure (h _ ?_))))
        simp [h1]
    · cases e
  · rintro ⟨r1, r2⟩ s' ⟨hr, rfl, hrest⟩
    have hr : r1 = none := hr
    subst hr
    refine wpAny_pure ?_
    have hxy : x₁ = y₁ ∧ x₂ = y₂ := by
      rcases hrest with e | ⟨_, e⟩ | ⟨h1, h2, _⟩
      · cases e
      · cases e
      · exact ⟨h1, h2⟩
    refine h _ ?_
    show decide (2 < 2) = _
    simp [hxy.1, hxy.2]

theorem tup_ge_tree {x₁ x₂ y₁ y₂ : Int} {t₁ t₂ u₁ u₂ : Tok} {a b : Addr} {R : Fin → Shared → Prop} (hoa : s.heap.get? a = some (tup2 x₁ t₁ x₂ t₂)) (hob : s.heap.get? b = some (tup2 y₁ u₁ y₂ u₂))
    (h : ∀ r, r = decide (x₁ > y₁ ∨ (x₁ = y₁ ∧ x₂ ≥ y₂)) → R (.done (.ret (.bool r))) s) :
    wpAny (model prog w) A (Builtin.«tuple.__ge__» ⟨[.ref a, .ref b], []⟩) R E s := by
  have hTb : s.TypeIs (.ref b) "tuple" := ⟨_, hob, rfl⟩
  show wpAny _ _ (isInstance (.ref b) (.type "tuple") >>= _) _ _ s
  refine wpAny_bind (wpAny_isInstance hTb isSubtype_tuple_tuple ?_)
  rw [if_neg (by decide)]
  refine wpAny_bind (wpAny_tupleItemsOf hoa rfl ?_)
  refine wpAny_bind (wpAny_tupleItemsOf hob rfl ?_)
  refine wpAny_bind ?_
  refine wpAny_forIn_list _
    (fun rest r s' => r.1 = none ∧ s' = s ∧ ((rest = [(Value.int x₁ t₁, Value.int y₁ u₁), (.int x₂ t₂, .int y₂ u₂)])
      ∨ (x₁ = y₁ ∧ rest = [(.int x₂ t₂, .int y₂ u₂)]) ∨ (x₁ = y₁ ∧ x₂ = y₂ ∧ rest = [])))
    _ ?_ ?_ _ _ ⟨rfl, rfl, .inl rfl⟩
  · rintro ⟨p, q⟩ rest r s' ⟨hr, rfl, hrest⟩
    rcases hrest with e | ⟨h1, e⟩ | ⟨_, _, e⟩
    · simp only [List.cons.injEq, Prod.mk.injEq] at e
      obtain ⟨⟨rfl, rfl⟩, rfl⟩ := e
      refine wpAny_bind (wpAny_eqBool_int ?_)
      by_cases hk : x₁ = y₁
      · have e : (x₁ == y₁) = true := by simp [hk]
        rw [e, if_neg (by decide)]
        exact wpAny_pure ⟨rfl, rfl, .inr (.inl ⟨hk, rfl⟩)⟩
      · have e : (x₁ == y₁) = false := by simp [hk]
        rw [e, if_pos (by decide)]
        refine wpAny_bind (wpAny_rule (wpAny_bind (rich_ge ?_)))
        refine wpAny_bind (wpAny_pure (wpAny_pure (wpAny_pure (h _ ?_))))
        simp only [hk, false_and, or_false]
        exact decide_eq_decide.mpr (by omega)
    · simp only [List.cons.injEq, Prod.mk.injEq] at e
      obtain ⟨⟨rfl, rfl⟩, rfl⟩ := e
      refine wpAny_bind (wpAny_eqBool_int ?_)
      by_cases hk : x₂ = y₂
      · have e : (x₂ == y₂) = true := by simp [hk]
        rw [e, if_neg (by decide)]
        exact wpAny_pure ⟨rfl, rfl, .inr (.inr ⟨h1, hk, rfl⟩)⟩
      · have e : (x₂ == y₂) = false := by simp [hk]
        rw [e, if_pos (by decide)]
        refine wpAny_bind (wpAny_rule (wpAny_bind (rich_ge ?_)))
        refine wpAny_bind (wpAny_pure (wpAny_pure (wpAny_pure (h _ ?_))))
        simp [h1]
    · cases e
  · rintro ⟨r1, r2⟩ s' ⟨hr, rfl, hrest⟩
    have hr : r1 = none := hr
    subst hr
    refine wpAny_pure ?_
    have hxy : x₁ = y₁ ∧ x₂ = y₂ := by
      rcases hrest with e | ⟨_, e⟩ | ⟨h1, h2, _⟩
      · cases e
      · cases e
      · exact ⟨h1, h2⟩
    refine h _ ?_
    show decide (2 ≥ 2) = _
    simp [hxy.1, hxy.2]

theorem pair_lt {x₁ x₂ y₁ y₂ : Int} {t₁ t₂ u₁ u₂ : Tok} {a b : Addr} {Q : Value → Shared → Prop} (hu : A.units < cLine) (hoa : s.heap.get? a = some (tup2 x₁ t₁ x₂ t₂)) (hob : s.heap.get? b = some (tup2 y₁ u₁ y₂ u₂))
    (h : ∀ r, r = decide (x₁ < y₁ ∨ (x₁ = y₁ ∧ x₂ < y₂)) → Q (.bool r) s) : wpAny (model prog w) A (compareOp .Lt (.ref a) (.ref b)) Q E s :=
  cmp_ofLt (wpAny_richCompare_same_room (op := .Lt) (⟨_, hoa, rfl⟩ : s.TypeIs (.ref a) "tuple") (⟨_, hob, rfl⟩ : s.TypeIs (.ref b) "tuple") F.slot_tuple_lt
    (wpAny_call_entry F.slot_tuple_lt (⟨_, hoa, rfl⟩ : s.TypeIs (.ref a) "tuple") F.entry_tuple_lt (tup_lt_tree hoa hob fun r hr => ⟨_, rfl, (fun e => nomatch e), h r hr⟩) (F.args_tuple_lt_2 _ _)) hu)
theorem pair_ge {x₁ x₂ y₁ y₂ : Int} {t₁ t₂ u₁ u₂ : Tok} {a b : Addr} {Q : Value → Shared → Prop} (hu : A.units < cLine) (hoa : s.heap.get? a = some (tup2 x₁ t₁ x₂ t₂)) (hob : s.heap.get? b = some (tup2 y₁ u₁ y₂ u₂))
    (h : ∀ r, r = decide (x₁ > y₁ ∨ (x₁ = y₁ ∧ x₂ ≥ y₂)) → Q (.bool r) s) : wpAny (model prog w) A (compareOp .GtE (.ref a) (.ref b)) Q E s :=
  cmp_ofGtE (wpAny_richCompare_same_room (op := .GtE) (⟨_, hoa, rfl⟩ : s.TypeIs (.ref a) "tuple") (⟨_, hob, rfl⟩ : s.TypeIs (.ref b) "tuple") F.slot_tuple_ge
    (wpAny_call_entry F.slot_tuple_ge (⟨_, hoa, rfl⟩ : s.TypeIs (.ref a) "tuple") F.entry_tuple_ge (tup_ge_tree hoa hob fun r hr => ⟨_, rfl, (fun e => nomatch e), h r hr⟩) (F.args_tuple_ge_2 _ _)) hu)

theorem tup_in_tree {x₁ x₂ k : Int} {t₁ t₂ t : Tok} {a : Addr} {R : Fin → Shared → Prop} (hoa : s.heap.get? a = some (tup2 x₁ t₁ x₂ t₂))
    (h : ∀ r, r = decide (x₁ = k ∨ x₂ = k) → R (.done (.ret (.bool r))) s) :
    wpAny (model prog w) A (Builtin.«tuple.__contains__» ⟨[.ref a, .int k t], []⟩) R E s := by
  show wpAny _ _ (Builtin.Tuple.tupleItemsOf (.ref a) >>= _) _ _ s
  refine wpAny_bind (wpAny_tupleItemsOf hoa rfl ?_)
  refine wpAny_bind ?_
  show wpAny _ _ (forIn _ _ _) _ _ s
  rw [← Array.forIn_toList]
  refine wpAny_forIn_list _
    (fun rest r s' => r.1 = none ∧ s' = s ∧ ((rest = [Value.int x₁ t₁, .int x₂ t₂]) ∨ (x₁ ≠ k ∧ rest = [.int x₂ t₂]) ∨ (x₁ ≠ k ∧ x₂ ≠ k ∧ rest = [])))
    _ ?_ ?_ _ _ ⟨rfl, rfl, .inl rfl⟩
  · rintro p rest r s' ⟨hr, rfl, hrest⟩
    rcases hrest with e | ⟨h1, e⟩ | ⟨_, _, e⟩
    · simp only [List.cons.injEq] at e
      obtain ⟨rfl, rfl⟩ := e
      refine wpAny_bind (wpAny_eqBool_int ?_)
      by_cases hk : x₁ = k
      · have e : (x₁ == k) = true := by simp [hk]
        rw [e, if_pos rfl]
        refine wpAny_bind (wpAny_pure (wpAny_pure (wpAny_pure (h _ ?_))))
        simp [hk]
      · have e : (x₁ == k) = false := by simp [hk]
        rw [e, if_neg (by decide)]
        exact wpAny_pure ⟨rfl, rfl, .inr (.inl ⟨hk, rfl⟩)⟩
    · simp only [List.cons.injEq] at e
      obtain ⟨rfl, rfl⟩ := e
      refine wpAny_bind (wpAny_eqBool_int ?_)
      by_cases hk : x₂ = k
      · have e : (x₂ == k) = true := by simp [hk]
        rw [e, if_pos rfl]
        refine wpAny_bind (wpAny_pure (wpAny_pure (wpAny_pure (h _ ?_))))
        simp [hk]
      · have e : (x₂ == k) = false := by simp [hk]
        rw [e, if_neg (by decide)]
        exact wpAny_pure ⟨rfl, rfl, .inr (.inr ⟨h1, hk, rfl⟩)⟩
    · cases e
  · rintro ⟨r1, r2⟩ s' ⟨hr, rfl, hrest⟩
    have hr : r1 = none := hr
    subst hr
    refine wpAny_pure ?_
    have hxy : x₁ ≠ k ∧ x₂ ≠ k := by
      rcases hrest with e | ⟨_, e⟩ | ⟨h1, h2, _⟩
      · cases e
      · cases e
      · exact ⟨h1, h2⟩
    refine h _ ?_
    simp [hxy.1, hxy.2]

theorem pair_in {x₁ x₂ k : Int} {t₁ t₂ t : Tok} {a : Addr} {Q : Value → Shared → Prop} (hoa : s.heap.get? a = some (tup2 x₁ t₁ x₂ t₂)) (h : ∀ r, r = decide (x₁ = k ∨ x₂ = k) → Q (.bool r) s) :
    wpAny (model prog w) A (compareOp .In (.int k t) (.ref a)) Q E s := by
  show wpAny _ _ (do return .bool (← contains (.ref a) (.int k t))) Q E s
  have hT : s.TypeIs (.ref a) "tuple" := ⟨_, hoa, rfl⟩
  refine wpAny_bind (wpAny_contains_slot hT F.slot_tuple_contains (wpAny_call_entry F.slot_tuple_contains hT F.entry_tuple_contains (tup_in_tree hoa fun r hr => ⟨_, rfl, wpAny_truthy_bool (wpAny_pure (h r hr))⟩) (F.args_tuple_contains_2 _ _)))
end
end Mine
end

section
open PySem PySem.Spec PySem.Calls PySem.W PyProof.Rows PyProof.Rows.LCg
set_option Elab.async false
set_option maxRecDepth 100000
set_option maxHeartbeats 8000000
namespace Mine
local macro_rules | `(tactic| walk_at "nostop") => `(tactic| ((fail_if_success (with_reducible show wpAny _ _ (exec (Stmt.For _ _ _ _ _) _) _ _ _)); (fail_if_success (with_reducible show wpAny _ _ (exec (Stmt.While _ _ _ _) _) _ _ _)); (fail_if_success (with_reducible show wpAny _ _ (eval (Expr.ListComp _ _ _ _) _) _ _ _)); (fail_if_success (with_reducible show wpAny _ _ (exec (Stmt.Assign _ (Expr.ListComp _ _ _ _) _) _) _ _ _))))
local macro_rules | `(tactic| walk_at "S") => `(tactic| repeat' (first | (k_unfold; (try dsimp only)) | (k_end; wrow_close) | (walk_at "nostop"; walk1) | (dsimp only; walk_at "nostop"; walk1) | (leave1; walk_say "STEP leave1"; try dsimp only) | fail "no step"))
local macro_rules | `(tactic| k_all) => `(tactic| assumption)
local macro_rules | `(tactic| size_fits) => `(tactic| with_reducible assumption)

local macro_rules | `(tactic| walk_at "enterD") => `(tactic| k_dflt (refine' code_def ?k1 ?k2 ?k3 ?k4 ?k5 ?kA ?kF ?kK ?k6 ?k7 ?k8 ?k9 ?kB ?_ ?c2 ?c3 ?c4 ?c5; (case kA => exact rfl); (case kF => exact rfl); (case kK => assumption); (case k1 => k_asm); (case k2 => k_asm); (case k3 => k_asm); (case k4 => k_asm); (case k5 => k_asm); (case k6 => k_is); (case k7 => k_is); (case k8 => ktr_room); (case k9 => exact kp_binds (by k_in) (fun S => rfl)); (case c5 => decide); (case kB => exact locs rfl); (case c2 => exact rfl); (case c3 => exact rfl); (case c4 => exact rfl); k_whole; intro g' L' h' FG' F' N' B' X' T'; (try dsimp only); (try k_fold)))


/-- the contract of a def that changes what its caller's ledger bears -/
def SpecM (lev : Nat) (w : World) (f : Addr) (args : List Value) (news : List (Addr × Obj)) (Post : Value → List (Addr × Obj) → Prop) : Prop :=
  ∀ (mean : ExcName → Option Value) (mg mb : Str → Option Value) (dp un : Nat) (gd : Option (List Code)) (cn : Str) (cs : Scope) (a : Addr) (ccd : Value) (cl : List (Str × Addr)) (outer : List Env) (A₀ : Around) (base h₀ : Heap) (L : Addr) (m : Str → Option Value) (s : Shared) (Q E : Value → Shared → Prop),
    Below A₀ base outer h₀ → Fr h₀ L s.heap m → (Mine.hd.heap_39 w.params).In h₀ → News h₀ L s.heap news → Top Mine.hd.view_39 (looseW Mine.hd.view_39 [Str.ofString "insort_left", Str.ofString "bisect_left"]) mean mg mb h₀ → cs.kind = .function → dp + lev < recursionLimit → un + 20 * lev < cLine →
    (∀ r nw h' tk', Fr h₀ L h' m → News h₀ L h' nw → Post r nw → Q r { s with heap := h', toks := tk' }) →
    wpAny (model PySem.Challenge.rw_gg0003_01.row.prog w) (ktrTop dp un gd cn cs L a ccd cl outer) (call (.ref f) args) Q E s

theorem insort_spec (w : World) (lt T : Addr) (xs : List Value) (n : Nat) (ps : List (Int × Int)) (x y : Int) (tx ty : Tok) (rest : List (Addr × Obj)) (hP : PairsAt rest xs ps) (hT : (T, tup2 x tx y ty) ∈ rest) (hoff : ∀ p ∈ rest, p.1 ≠ lt) (h16 : xs.length ≤ 32)
    (hmono : ∀ (i j : Nat) (a b : Int × Int), i ≤ j → ps[i]? = some a → ps[j]? = some b → (b.1 < x ∨ (b.1 = x ∧ b.2 < y)) → (a.1 < x ∨ (a.1 = x ∧ a.2 < y))) :
    SpecM 15 w 23 [.ref lt, .ref T] ((lt, W.listOf xs.toArray n) :: rest) (fun r nw => r = .none ∧ ∃ j n', j ≤ xs.length ∧ nw = (lt, W.listOf (xs.take j ++ .ref T :: xs.drop j).toArray n') :: rest ∧
      (∀ (i : Nat) (a : Int × Int), i < j → ps[i]? = some a → (a.1 < x ∨ (a.1 = x ∧ a.2 < y))) ∧ (∀ (i : Nat) (a : Int × Int), j ≤ i → ps[i]? = some a → ¬ (a.1 < x ∨ (a.1 = x ∧ a.2 < y)))) := by
  unfold SpecM
  k_fill
  intro mean mg mb dp un gd cn cs a ccd cl outer A₀ base h₀ L m s Q E B F X N T' hk hdp hun hret
  refine wpAny_call ?_
  walk_at "enterD"
  rename_i g' L' h' FG' F' N' B' X' TT
  clear F B X T'
  walk_at "S"
  have hl := hP.length
  have hlss : ∀ (i : Nat) (a : Int × Int), ps[i]? = some a → (match ps[i]? with | some a => decide (a.1 < x ∨ (a.1 = x ∧ a.2 < y)) | none => false) = decide (a.1 < x ∨ (a.1 = x ∧ a.2 < y)) := fun i a h => by rw [h]
  refine (bis_spec4 w lt xs n (.ref T) _ (fun i => match ps[i]? with | some a => decide (a.1 < x ∨ (a.1 = x ∧ a.2 < y)) | none => false) ((lt, W.listOf xs.toArray n) :: rest) (.head _) h16 ?_ ?_).use (dp := dp + 1) (un := un + 3) B' F' X' N' TT (by rfl) True.intro (by omega) (by omega) ?_
  · intro i j hij hj h
    have hj' : j < ps.length := by omega
    have hi' : i < ps.length := by omega
    have e1 := List.getElem?_eq_getElem hj'
    have e2 := List.getElem?_eq_getElem hi'
    rw [hlss _ _ e1] at h
    rw [hlss _ _ e2]
    exact decide_eq_true (hmono i j _ _ hij e2 e1 (of_decide_eq_true h))
  · intro A s Q E h₀ L i v _ hu hv N hQ
    obtain ⟨a, x', t, y', u, rfl, hpi, ha⟩ := hP.get hv
    refine pair_lt (by omega) (N _ (.tail _ ha)).1 (N _ (.tail _ hT)).1 fun r hr => ?_
    have := hQ s.toks
    rw [hpi] at this
    rw [hr]
    exact this
  rintro r tl h2 tk2 F2 N2 ⟨j, tj, rfl, hj, hj1, hj2⟩
  walk_at "S"
  rename_i h3 F3 N3
  have hki : kl_ins (xs.toArray).toList ((j : Nat) : Int) (.ref T) = xs.take j ++ .ref T :: xs.drop j := by
    unfold kl_ins
    rw [if_neg (by omega)]
    have e : min (((j : Nat) : Int)).toNat (xs.toArray).toList.length = j := by simp; omega
    rw [e]
  refine kl_insert (its := xs.toArray) (n := n) (news := (lt, W.listOf xs.toArray n) :: rest) (news' := (lt, W.listOf (xs.take j ++ .ref T :: xs.drop j).toArray (n + 1)) :: rest) F3 (fun p hp => N3 p (List.mem_append_right _ hp)) (fitsIndex_of (by omega) (by omega)) hki (.head hoff) (by rw [sizeLine_eq]; simp; omega) fun h4 F4 N4 => ?_
  walk_at "S"
  refine leaveK_ F4 N4 fun kF kN => ?_
  refine hret _ _ _ _ kF kN ⟨rfl, j, n + 1, hj, rfl, ?_, ?_⟩
  · intro i a hi ha
    have := hj1 i hi
    rw [hlss _ _ ha] at this
    exact of_decide_eq_true this
  · intro i a hi ha
    have := hj2 i hi (by rw [hl]; exact (List.getElem?_eq_some_iff.mp ha).1)
    rw [hlss _ _ ha] at this
    exact of_decide_eq_false this
end Mine
end

section
open PySem PySem.Spec PySem.Calls PySem.W PyProof.Rows PyProof.Rows.LCg
set_option Elab.async false
set_option maxRecDepth 100000
set_option maxHeartbeats 8000000
namespace Mine
theorem PairsAt.own {led : List (Addr × Obj)} {vs : List Value} {ps : List (Int × Int)} (h : PairsAt led vs ps) : ∃ pl, PairsAt pl vs ps ∧ ∀ p ∈ pl, p ∈ led ∧ ∃ xs n, p.2.data = .seq xs n := by
  induction h with
  | nil => exact ⟨[], .nil, fun p hp => nomatch hp⟩
  | @cons a x y t u vs ps hm _ ih =>
    obtain ⟨pl, h1, h2⟩ := ih
    refine ⟨(a, tup2 x t y u) :: pl, .cons (.head _) (h1.mono fun p hp => .tail _ hp), fun p hp => ?_⟩
    rcases List.mem_cons.mp hp with rfl | hp
    · exact ⟨hm, _, _, rfl⟩
    · exact h2 p hp
theorem news_ne {g h : Heap} {L : Addr} {news : List (Addr × Obj)} (N : News g L h news) {a b : Addr} {oa ob : Obj} (ha : (a, oa) ∈ news) (hb : (b, ob) ∈ news) {xs : Array Value} {n : Nat} {v : Option Value} (da : oa.data = .seq xs n) (db : ob.data = .cell v) : @Ne Nat a b := by
  intro e
  have e : a = b := e
  subst e
  have h1 := (N _ ha).1
  rw [(N _ hb).1] at h1
  have h2 : ob = oa := Option.some.inj h1
  rw [h2] at db
  rw [da] at db
  cases db
section
variable {prog : Program} {w : World} {A : Around} {E : Value → Shared → Prop} {s : Shared} {h₀ : Heap} {L : Addr} {m : Str → Option Value} {env : Env}
/-- a block's own target: one name that is a cell -/
theorem asg_cell {x : Str} {px : Pos} {scope : Scope} {cl : List (Str × Addr)} {I C D c : Addr} {io oC oc : Obj} {v : Value} {v₀ : Option Value} {ys : List Value} {mc : Str → Option Value} {base : List (Addr × Obj)} {Q : Unit → Shared → Prop}
    (B : BlockAt h₀ L m s.heap I io C D ys mc ((c, oc) :: base) oC) (hoc : oc.data = .cell v₀) (hkind : (compEnvC scope cl C env).scope.kind = .function) (hx : (compEnvC scope cl C env).kindOf x = some .cell) (hc : (compEnvC scope cl C env).cells.lookup x = some c) (hb : ∀ p ∈ base, p.1 ≠ c)
    (k : ∀ h' oc', BlockAt h₀ L m h' I io C D ys mc ((c, oc') :: base) oC → oc'.data = .cell (some v) → Q () { s with heap := h' }) :
    wpAny (model prog w) A (assign (.Name x px) (compEnvC scope cl C env) v) Q E s := by
  have zc := B.N (c, oc) (.tail _ (.tail _ (.tail _ (.head _))))
  have ho := B.off (c, oc) (.head _)
  refine wpAny_assign_Name (wpAny_storeName_cell hkind hx hc ⟨oc, zc.1, hoc⟩ fun h' hcell hs' => ?_)
  obtain ⟨oc', hoc', hd'⟩ := hcell
  refine k h' oc' ⟨B.F.change hs' zc.2.1 zc.2.2, fun p hp => ?_, B.c, fun p hp => ?_, B.ne⟩ hd'
  · rcases List.mem_cons.mp hp with rfl | hp
    · exact ⟨hs'.extBut _ _ (Ne.symm ho.1) (B.N _ (.head _)).1, (B.N _ (.head _)).2⟩
    rcases List.mem_cons.mp hp with rfl | hp
    · exact ⟨hs'.extBut _ _ (Ne.symm ho.2.1) (B.N _ (.tail _ (.head _))).1, (B.N _ (.tail _ (.head _))).2⟩
    rcases List.mem_cons.mp hp with rfl | hp
    · exact ⟨hs'.extBut _ _ (Ne.symm ho.2.2) (B.N _ (.tail _ (.tail _ (.head _)))).1, (B.N _ (.tail _ (.tail _ (.head _)))).2⟩
    rcases List.mem_cons.mp hp with rfl | hp
    · exact ⟨hoc', zc.2⟩
    · have z := B.N p (.tail _ (.tail _ (.tail _ (.tail _ hp))))
      exact ⟨hs'.extBut _ _ (hb p hp) z.1, z.2⟩
  · rcases List.mem_cons.mp hp with rfl | hp
    · exact ho
    · exact B.off p (.tail _ hp)
end

/-- a frame's own name that is a cell -/
theorem store_cellF {prog : Program} {w : World} {A : Around} {E : Value → Shared → Prop} {s : Shared} {h₀ : Heap} {L : Addr} {m : Str → Option Value} {env : Env} {x : Str} {c : Addr} {oc : Obj} {v : Value} {v₀ : Option Value} {pre post : List (Addr × Obj)} {Q : Unit → Shared → Prop}
    (hk : env.scope.kind = .function) (hl : env.kindOf x = some .cell) (hc : env.cells.lookup x = some c) (F : Fr h₀ L s.heap m) (N : News h₀ L s.heap (pre ++ (c, oc) :: post)) (hoc : oc.data = .cell v₀) (hpre : ∀ p ∈ pre, p.1 ≠ c) (hpost : ∀ p ∈ post, p.1 ≠ c)
    (k : ∀ h' oc', Fr h₀ L h' m → News h₀ L h' (pre ++ (c, oc') :: post) → oc'.data = .cell (some v) → Q () { s with heap := h' }) :
    wpAny (model prog w) A (storeName env x v) Q E s := by
  have zc := N (c, oc) (List.mem_append_right _ (.head _))
  refine wpAny_storeName_cell hk hl hc ⟨oc, zc.1, hoc⟩ fun h' hcell hs' => ?_
  obtain ⟨oc', hoc', hd'⟩ := hcell
  exact k h' oc' (F.change hs' zc.2.1 zc.2.2) (N.setIn hpre hpost hs' hoc') hd'

/-- a frame's own target: two names that are cells -/
theorem asg_pair_cells {prog : Program} {w : World} {A : Around} {E : Value → Shared → Prop} {s : Shared} {h₀ : Heap} {L : Addr} {m : Str → Option Value} {env : Env} {a b : Str} {pa pb tp : Pos} {kk : Nat} {T : Addr} {x y : Value} {Q : Unit → Shared → Prop} {c₁ c₂ : Addr} {o₁ o₂ : Obj} {v₁ v₂ : Option Value} {news : List (Addr × Obj)}
    (hh : A.handled = none) (hT : s.heap.IsTuple T #[x, y]) (hk : env.scope.kind = .function) (ha : env.kindOf a = some .cell) (hb : env.kindOf b = some .cell) (ca : env.cells.lookup a = some c₁) (cb : env.cells.lookup b = some c₂)
    (F : Fr h₀ L s.heap m) (N : News h₀ L s.heap ((c₂, o₂) :: (c₁, o₁) :: news)) (d₁ : o₁.data = .cell v₁) (d₂ : o₂.data = .cell v₂) (h12 : @Ne Nat c₁ c₂) (n₁ : ∀ p ∈ news, p.1 ≠ c₁) (n₂ : ∀ p ∈ news, p.1 ≠ c₂)
    (k : ∀ h' tk o₁' o₂', Fr h₀ L h' m → News h₀ L h' ((c₂, o₂') :: (c₁, o₁') :: news) → o₁'.data = .cell (some x) → o₂'.data = .cell (some y) → Q () { s with heap := h', toks := tk }) :
    wpAny (model prog w) A (assign (.Tuple [.Name a pa, .Name b pb] kk tp) env (.ref T)) Q E s := by
  refine wpAny_assign_Tuple hh hT rfl rfl fun h₁ he₁ => ?_
  have F₁ : Fr h₀ L h₁ m := ⟨F.ns.at' fun o e => he₁ _ o (Nat.ne_of_lt F.ns.lt) e, fun b o e => he₁ b o (Nat.ne_of_lt (Heap.lt_size (F.keep b o e))) (F.keep b o e), F.above⟩
  have N₁ : News h₀ L h₁ ((c₂, o₂) :: (c₁, o₁) :: news) := fun p hp => ⟨he₁ _ _ (Nat.ne_of_lt (Heap.lt_size (N p hp).1)) (N p hp).1, (N p hp).2⟩
  show wpAny _ _ (assignInOrder [assign (.Name a pa) env, assign (.Name b pb) env] [x, y]) _ _ _
  refine assignInOrder_cons (wpAny_assign_Name (store_cellF (pre := [(c₂, o₂)]) (post := news) hk ha ca F₁ N₁ d₁ ?_ n₁ fun h₂ o₁' F₂ N₂ d₁' => ?_))
  · intro p hp
    rw [List.mem_singleton.mp hp]
    exact fun e => h12 e.symm
  refine assignInOrder_cons (wpAny_assign_Name (store_cellF (pre := []) (post := (c₁, o₁') :: news) hk hb cb F₂ N₂ d₂ (fun p hp => nomatch hp) ?_ fun h₃ o₂' F₃ N₃ d₂' => ?_))
  · intro p hp
    rcases List.mem_cons.mp hp with rfl | hp
    · exact h12
    · exact n₂ p hp
  exact assignInOrder_nil (k h₃ _ o₁' o₂' F₃ N₃ d₁' d₂')

section
variable {prog : Program} {w : World} {A : Around} {E : Value → Shared → Prop} {s : Shared} {h₀ : Heap} {L : Addr}
theorem tup_at0 {value slice : PySem.Expr} {T : Addr} {x y : Int} {tx ty u : Tok} {Q : Value → Shared → Prop} (hT : s.heap.get? T = some (tup2 x tx y ty)) (h : Q (.int x tx) s)
    (hs : subscripted slice false (.ref T) (.int 0 u) = operate [.ref T, .int 0 u] (getItem (.ref T) (.int 0 u)) := by with_unfolding_all rfl) (hg : ∀ r, letTemporaryGo value (.ref T) r = pure () := by intro _; with_unfolding_all rfl) :
    wpAny (model prog w) A (subscriptTail value slice (.ref T) (.int 0 u)) Q E s :=
  item_tuple (j := 0) (items := #[.int x tx, .int y ty]) ⟨_, hT, rfl, _, rfl⟩ (by decide) (by decide) rfl rfl h hs hg
theorem tup_at1 {value slice : PySem.Expr} {T : Addr} {x y : Int} {tx ty u : Tok} {Q : Value → Shared → Prop} (hT : s.heap.get? T = some (tup2 x tx y ty)) (h : Q (.int y ty) s)
    (hs : subscripted slice false (.ref T) (.int 1 u) = operate [.ref T, .int 1 u] (getItem (.ref T) (.int 1 u)) := by with_unfolding_all rfl) (hg : ∀ r, letTemporaryGo value (.ref T) r = pure () := by intro _; with_unfolding_all rfl) :
    wpAny (model prog w) A (subscriptTail value slice (.ref T) (.int 1 u)) Q E s :=
  item_tuple (j := 1) (items := #[.int x tx, .int y ty]) ⟨_, hT, rfl, _, rfl⟩ (by decide) (by decide) rfl rfl h hs hg
end

/-- how the law ends -/
def LawEnd (s₁ : Shared) (f : Flow) (s' : Shared) : Prop :=
  f = .ret (.bool true) ∧ ∃ h' tk' m nw, s' = { s₁ with heap := h', toks := tk' } ∧ Fr s₁.heap s₁.heap.objs.size h' m ∧ News s₁.heap s₁.heap.objs.size h' nw
end Mine
end

section
open PySem PySem.Spec PySem.Calls PySem.W PyProof.Rows PyProof.Rows.LCg
set_option Elab.async false
set_option maxRecDepth 100000
set_option maxHeartbeats 8000000
namespace Mine
theorem SpecM.use {lev : Nat} {w : World} {f : Addr} {args : List Value} {news : List (Addr × Obj)} {Post : Value → List (Addr × Obj) → Prop} (S : SpecM lev w f args news Post)
    {mean : ExcName → Option Value} {mg mb : Str → Option Value} {dp un : Nat} {gd : Option (List Code)} {cn : Str} {cs : Scope} {a : Addr} {ccd : Value} {cl : List (Str × Addr)} {outer : List Env} {A₀ : Around} {base h₀ : Heap} {L : Addr} {m : Str → Option Value} {s : Shared} {Q E : Value → Shared → Prop}
    (B : Below A₀ base outer h₀) (F : Fr h₀ L s.heap m) (X : (Mine.hd.heap_39 w.params).In h₀) (N : News h₀ L s.heap news) (T : Top Mine.hd.view_39 (looseW Mine.hd.view_39 [Str.ofString "insort_left", Str.ofString "bisect_left"]) mean mg mb h₀)
    (hk : cs.kind = .function) (hdp : dp + lev < recursionLimit) (hun : un + 20 * lev < cLine)
    (k : ∀ r nw h' tk', Fr h₀ L h' m → News h₀ L h' nw → Post r nw → Q r { s with heap := h', toks := tk' }) :
    wpAny (model PySem.Challenge.rw_gg0003_01.row.prog w) (ktrTop dp un gd cn cs L a ccd cl outer) (call (.ref f) args) Q E s :=
  S mean mg mb dp un gd cn cs a ccd cl outer A₀ base h₀ L m s Q E B F X N T hk hdp hun k
end Mine
end

section
open PySem PySem.Spec PySem.Calls PySem.W PyProof.Rows PyProof.Rows.LCg
set_option Elab.async false
set_option maxRecDepth 100000
set_option maxHeartbeats 8000000
namespace Mine
theorem PairsAt.dat {led : List (Addr × Obj)} {vs : List Value} {ps : List (Int × Int)} (h : PairsAt led vs ps) : DatAll led vs (ps.map fun p => Dat.tuple [.int p.1, .int p.2]) := by
  induction h with
  | nil => exact .nil
  | @cons a x y t u vs ps hm _ ih => exact .cons (.tuple (vs := [.int x t, .int y u]) (n := 0) hm (.cons (.int x t) (.cons (.int y u) .nil))) ih
theorem dat_ok (ps : List (Int × Int)) : ∀ d ∈ ps.map (fun p => Dat.tuple [.int p.1, .int p.2]), kqdOk 8 d = true := by
  intro d hd
  obtain ⟨p, _, rfl⟩ := List.mem_map.mp hd
  rfl
theorem PairsAt.firsts {led : List (Addr × Obj)} {vs : List Value} {ps : List (Int × Int)} {g h : Heap} {L : Addr} (N : News g L h led) (hP : PairsAt led vs ps) : ∃ fs, KatTups h vs fs ∧ fs.length = vs.length ∧ ∀ v ∈ fs, ∃ x t, v = Value.int x t := by
  induction hP with
  | nil => exact ⟨[], .nil, rfl, fun v hv => nomatch hv⟩
  | @cons a x y t u vs ps hm _ ih =>
    obtain ⟨fs, h1, h2, h3⟩ := ih
    refine ⟨.int x t :: fs, .cons (N _ hm).1 rfl rfl rfl h1, by simp [h2], fun v hv => ?_⟩
    rcases List.mem_cons.mp hv with rfl | hv
    · exact ⟨x, t, rfl⟩
    · exact h3 v hv
section
variable {prog : Program} {w : World} {A : Around} {E : Value → Shared → Prop} {s : Shared} {h₀ : Heap} {L : Addr} {m : Str → Option Value}
theorem list_ne_same {a b : Addr} {xs ys : List Value} {ka kb : Nat} {qs : List (Int × Int)} {n₁ n₂ news : List (Addr × Obj)} {Q : Value → Shared → Prop} (N : News h₀ L s.heap news) (ma : (a, W.listOf xs.toArray ka) ∈ news) (mb : (b, W.listOf ys.toArray kb) ∈ news) (ha : PairsAt n₁ xs qs) (sa : ∀ p ∈ n₁, p ∈ news) (hb : PairsAt n₂ ys qs) (sb : ∀ p ∈ n₂, p ∈ news) (hu : A.units + 64 < cLine) (h : Q (.bool false) s) :
    wpAny (model prog w) A (compareOp .NotEq (.ref a) (.ref b)) Q E s :=
  kqd_ne N ma rfl rfl ha.dat sa mb rfl rfl hb.dat sb (dat_ok _) (dat_ok _) hu (by simp only [eq_self, decide_true, Bool.not_true]; exact h)

theorem key_lt {x₁ x₂ y₁ y₂ : Int} {t₁ t₂ u₁ u₂ : Tok} {a b : Addr} {Q : Bool → Shared → Prop} (hoa : s.heap.get? a = some (tup2 x₁ t₁ x₂ t₂)) (hob : s.heap.get? b = some (tup2 y₁ u₁ y₂ u₂))
    (h : ∀ r, r = decide (x₁ < y₁ ∨ (x₁ = y₁ ∧ x₂ < y₂)) → Q r s) : wpAny (model prog w) A (keyLt' (tuples' true) (.ref a) (.ref b)) Q E s := by
  refine kat_lt hoa rfl hob rfl ?_
  show KatLex prog w A true (decide (2 < 2)) Q [(.int x₁ t₁, .int y₁ u₁), (.int x₂ t₂, .int y₂ u₂)] 0 s
  refine kat_cons (wpAny_eqBool_int (kat_go (fun e1 => ?_) fun e1 => ?_))
  · have e1 : x₁ = y₁ := by simpa using e1
    refine kat_yes (kat_cons (wpAny_eqBool_int (kat_go (fun e2 => ?_) fun e2 => ?_)))
    · have e2 : x₂ = y₂ := by simpa using e2
      refine kat_yes (kat_nil (h _ ?_))
      refine Eq.trans ?_ (decide_eq_false ?_).symm
      · rfl
      · omega
    · have e2 : ¬ x₂ = y₂ := by simpa using e2
      refine kat_no ?_
      show wpAny _ _ (oneLt' false _ _) _ _ _
      rw [oneLt'_eq]
      simp only [Bool.false_eq_true, if_false]
      refine wpAny_bind (rich_lt (wpAny_truthy_bool (h _ ?_)))
      refine decide_eq_decide.mpr ?_
      omega
  · have e1 : ¬ x₁ = y₁ := by simpa using e1
    refine kat_no ?_
    show wpAny _ _ (oneLt' true _ _) _ _ _
    refine oneLt_int (h _ ?_)
    refine decide_eq_decide.mpr ?_
    omega

theorem sort_one {a : Addr} {n : Nat} {v : Value} {news : List (Addr × Obj)} {P : PySem.Fin → Shared → Prop} (F : Fr h₀ L s.heap m) (N : News h₀ L s.heap news) (ho : s.heap.get? a = some (seqObj "list" [v].toArray n)) (haL : a ≠ L) (ha0 : h₀.get? a = none) (hna : ∀ p ∈ news, p.1 ≠ a)
    (h : ∀ c h', Fr h₀ L h' m → News h₀ L h' ((a, W.listOf [v].toArray c) :: news) → P (.done (.ret .none)) { s with heap := h' }) :
    wpAny (model prog w) A (Builtin.«list.sort» ⟨[.ref a], []⟩) P E s := by
  have s1 := Heap.SameBut.update s.heap a (Obj.mapSeq fun _ => (#[] : Array Value))
  obtain ⟨e1, ho1⟩ : ∃ e1, (s.heap.update a (Obj.mapSeq fun _ => (#[] : Array Value))).get? a = some (seqObj "list" #[] e1) := ⟨_, get?_update_seq ho fun _ => #[]⟩
  have F3 : Fr h₀ L (((s.heap.update a (Obj.mapSeq fun _ => (#[] : Array Value))).push (seqObj "tuple" [v].toArray 0)).push (seqObj "list" #[] 0)) m := ((kas_fr F s1 haL ha0).push _).push _
  have up : ∀ b x, (s.heap.update a (Obj.mapSeq fun _ => (#[] : Array Value))).get? b = some x → (((s.heap.update a (Obj.mapSeq fun _ => (#[] : Array Value))).push (seqObj "tuple" [v].toArray 0)).push (seqObj "list" #[] 0)).get? b = some x := fun b x e => Heap.get?_push_of_some _ (Heap.get?_push_of_some _ e)
  have N3 : News h₀ L (((s.heap.update a (Obj.mapSeq fun _ => (#[] : Array Value))).push (seqObj "tuple" [v].toArray 0)).push (seqObj "list" #[] 0)) news := (kas_news N s1 hna).grown up
  have ho3 := up _ _ ho1
  rw [list_sort_plain]
  refine wpAny_bind (listItems_at ho rfl ?_)
  refine wpAny_bind (listUpdate_at ho rfl ?_ (by rw [List.size_toArray, sizeLine_eq]; simp) (Nat.zero_le _))
  refine wpAny_bind (seqEpoch_at ho1 rfl ?_)
  refine wpAny_bind (wpAny_newTuple ?_ (by show 1 ≤ _; rw [sizeLine_eq]; omega))
  refine wpAny_bind (wpAny_newList ?_ (Nat.zero_le _))
  refine wpAny_holding ?_
  show wpAny (model prog w) A _ P E { s with heap := ((s.heap.update a (Obj.mapSeq fun _ => (#[] : Array Value))).push (seqObj "tuple" [v].toArray 0)).push (seqObj "list" #[] 0) }
  generalize ((s.heap.update a (Obj.mapSeq fun _ => (#[] : Array Value))).push (seqObj "tuple" [v].toArray 0)).push (seqObj "list" #[] 0) = H at F3 N3 ho3
  dsimp only
  have hn2 : [v].toArray.size < 2 := by simp
  rw [if_pos hn2, if_pos hn2]
  refine wpAny_bind (wpAny_pure ?_)
  refine wpAny_bind (wpAny_pure ?_)
  dsimp only
  have hout : Array.map (fun x : Value × Value => x.snd) (arrOf (SortSt.mk' general' ([v].toArray.zip [v].toArray) #[] 7 none)) = [v].toArray := by
    show Array.map (fun x : Value × Value => x.snd) ([v].toArray.zip [v].toArray) = [v].toArray
    simp
  rw [hout]
  have s2 := Heap.SameBut.update H a (Obj.mapSeq fun _ => [v].toArray)
  obtain ⟨c2, hc2⟩ : ∃ c2, (H.update a (Obj.mapSeq fun _ => [v].toArray)).get? a = some (seqObj "list" [v].toArray c2) := ⟨_, get?_update_seq ho3 fun _ => [v].toArray⟩
  refine wpAny_bind (seqEpoch_at ho3 rfl ?_)
  refine wpAny_bind (listUpdate_at ho3 rfl ?_ (Nat.zero_le _) (by show 1 ≤ _; rw [sizeLine_eq]; omega))
  simp only [bne_self_eq_false, Bool.false_eq_true, if_false]
  refine wpAny_pure (h c2 _ (kas_fr F3 s2 haL ha0) fun p hp => ?_)
  rcases List.mem_cons.mp hp with rfl | hp
  · exact ⟨hc2, haL, ha0⟩
  · exact kas_news N3 s2 hna p hp
theorem sorted_one {l : Addr} {v : Value} {news : List (Addr × Obj)} {Q : Value → Shared → Prop} (F : Fr h₀ L s.heap m) (N : News h₀ L s.heap news) (hl : s.heap.IsList l [v].toArray)
    (h : ∀ D c h', Fr h₀ L h' m → News h₀ L h' ((D, W.listOf [v].toArray c) :: news) → (∀ q ∈ news, q.1 < D) → Q (.ref D) { s with heap := h' }) :
    wpAny (model prog w) A (call (.builtin "sorted") [.ref l]) Q E s := by
  refine Calls.call_function_entry kind_sorted plain_sorted entry_sorted (args_sorted1 _) ?_
  unfold Builtin.«sorted»
  refine wpAny_bind (m := checkCount "sorted" 1 1 _) (wpAny_pure ?_)
  refine wpAny_bind (collect_list hl ?_ (by rw [sizeLine_eq]; simp))
  refine wpAny_bind (wpAny_newList ?_ (by rw [sizeLine_eq]; simp))
  have hsz : ((s.heap.push (seqObj "list" #[] 0)).update s.heap.objs.size (Obj.mapSeq (· ++ [v].toArray))).objs.size = s.heap.objs.size + 1 := by
    rw [Heap.size_update, size_push']
  have keep : ∀ b o, s.heap.get? b = some o → (((s.heap.push (seqObj "list" #[] 0)).update s.heap.objs.size (Obj.mapSeq (· ++ [v].toArray))).push (seqObj "list" [v].toArray 0)).get? b = some o := fun b o q => by
    have hlt : b < s.heap.objs.size := Heap.lt_size q
    rw [Heap.get?_push_ne _ _ _ (by rw [hsz]; exact Nat.ne_of_lt (Nat.lt_succ_of_lt hlt)), Heap.get?_update_ne _ _ _ _ (Nat.ne_of_lt hlt), Heap.get?_push_ne _ _ _ (Nat.ne_of_lt hlt)]
    exact q
  have hoL : (((s.heap.push (seqObj "list" #[] 0)).update s.heap.objs.size (Obj.mapSeq (· ++ [v].toArray))).push (seqObj "list" [v].toArray 0)).get? (s.heap.objs.size + 1) = some (seqObj "list" [v].toArray 0) := by
    rw [← hsz]; exact Heap.get?_push_size _ rfl
  have hL : L < s.heap.objs.size := F.ns.lt
  have FH := F.kept keep
  have NH := N.grown keep
  have hlt : ∀ p ∈ news, @LT.lt Nat _ p.1 (s.heap.objs.size + 1) := fun p hp => Nat.lt_succ_of_lt (Heap.lt_size (N p hp).1)
  have h0 : h₀.get? (s.heap.objs.size + 1) = none := Heap.get?_none_of_le (Nat.le_trans F.above (Nat.le_succ_of_le (Nat.le_of_lt hL)))
  show wpAny _ _ _ _ _ { s with heap := ((s.heap.push (seqObj "list" #[] 0)).update s.heap.objs.size (Obj.mapSeq (· ++ [v].toArray))).push (seqObj "list" [v].toArray 0) }
  rw [hsz]
  generalize ((s.heap.push (seqObj "list" #[] 0)).update s.heap.objs.size (Obj.mapSeq (· ++ [v].toArray))).push (seqObj "list" [v].toArray 0) = H at FH NH hoL
  refine wpAny_bind (wpAny_holding (wpAny_call_entry slot_list_sort ⟨_, hoL, rfl⟩ entry_list_sort (sort_one (s := { s with heap := H }) FH NH hoL (Nat.ne_of_gt (Nat.lt_succ_of_lt hL)) h0 (fun p hp => Nat.ne_of_lt (hlt p hp)) fun c h' F' N' => ?_) (args_list_sort _)))
  exact ⟨_, rfl, wpAny_pure ⟨_, rfl, h _ c h' F' N' hlt⟩⟩

def kkey (ps : List (Int × Int)) (i : Nat) : Int := (ps.getD i (0, 0)).1 * 100 + (ps.getD i (0, 0)).2
theorem sorted_pairs {l : Addr} {k : Nat} {vs : List Value} {ps : List (Int × Int)} {pl news : List (Addr × Obj)} {Q : Value → Shared → Prop} (F : Fr h₀ L s.heap m) (N : News h₀ L s.heap news) (hm : (l, W.listOf vs.toArray k) ∈ news) (hP : PairsAt pl vs ps) (hsub : ∀ p ∈ pl, p ∈ news) (hnd : ps.Nodup) (hr : ∀ p ∈ ps, 0 ≤ p.2 ∧ p.2 ≤ 16) (h1 : 1 ≤ vs.length) (h64 : vs.length < 64)
    (h : ∀ D c (zs : List (Value × (Int × Int))) h', Fr h₀ L h' m → News h₀ L h' ((D, W.listOf (zs.map (·.1)).toArray c) :: news) → (∀ q ∈ news, q.1 < D) → zs.Perm (vs.zip ps) → zs.Pairwise (fun a b => ltP a.2 b.2) → Q (.ref D) { s with heap := h' }) :
    wpAny (model prog w) A (call (.builtin "sorted") [.ref l]) Q E s := by
  have hl : s.heap.IsList l vs.toArray := ⟨_, (N _ hm).1, rfl, _, rfl⟩
  have hlen := hP.length
  by_cases e1 : vs.length = 1
  · obtain ⟨v, rfl⟩ := List.length_eq_one_iff.mp e1
    obtain ⟨q, rfl⟩ := List.length_eq_one_iff.mp (hlen ▸ e1)
    exact sorted_one F N hl fun D c h' F' N' hD => h D c [(v, q)] h' F' N' hD (List.Perm.refl _) (List.pairwise_singleton _ _)
  refine kat_sorted F N hl (by omega) h64 fun D e h' F' N' hD => ?_
  obtain ⟨fs, f1, f2, f3⟩ := PairsAt.firsts (h := h') (g := h₀) (L := L) (fun p hp => N' p (.tail _ (hsub p hp))) hP
  refine kat_kind (T := .type "int") f1 (by omega) (fun v hv => by obtain ⟨x, t, rfl⟩ := f3 v hv; exact Looks.of_pure rfl) (by rfl) ?_
  have hb : ((Value.type "int" : Value) != Value.type "tuple") = true := by decide
  rw [hb]
  have hgp : ∀ i, i < vs.length → ∃ a x t y u, vs.getD i .none = .ref a ∧ ps.getD i (0, 0) = (x, y) ∧ (a, tup2 x t y u) ∈ pl := fun i hi => by
    obtain ⟨a, x, t, y, u, e1, e2, e3⟩ := hP.get (List.getElem?_eq_getElem hi)
    refine ⟨a, x, t, y, u, ?_, ?_, e3⟩
    · rw [List.getD_eq_getElem?_getD, List.getElem?_eq_getElem hi, e1]; rfl
    · rw [List.getD_eq_getElem?_getD, e2]; rfl
  have hkey : ∀ i j, i < vs.length → j < vs.length → (kkey ps i < kkey ps j ↔ ltP (ps.getD i (0, 0)) (ps.getD j (0, 0))) := fun i j hi hj => by
    have hri := hr (ps.getD i (0, 0)) (by rw [List.getD_eq_getElem?_getD, List.getElem?_eq_getElem (by omega)]; exact List.getElem_mem _)
    have hrj := hr (ps.getD j (0, 0)) (by rw [List.getD_eq_getElem?_getD, List.getElem?_eq_getElem (by omega)]; exact List.getElem_mem _)
    unfold kkey ltP
    omega
  have hinj : ∀ i j, i < vs.length → j < vs.length → kkey ps i = kkey ps j → i = j := fun i j hi hj e => by
    have hi' : i < ps.length := by omega
    have hj' : j < ps.length := by omega
    have hri := hr (ps.getD i (0, 0)) (by rw [List.getD_eq_getElem?_getD, List.getElem?_eq_getElem hi']; exact List.getElem_mem _)
    have hrj := hr (ps.getD j (0, 0)) (by rw [List.getD_eq_getElem?_getD, List.getElem?_eq_getElem hj']; exact List.getElem_mem _)
    have e2 : ps.getD i (0, 0) = ps.getD j (0, 0) := by
      unfold kkey at e
      exact Prod.ext (by omega) (by omega)
    rw [List.getD_eq_getElem?_getD, List.getD_eq_getElem?_getD, List.getElem?_eq_getElem hi', List.getElem?_eq_getElem hj'] at e2
    have e3 : ps[i] = ps[j] := e2
    have hp := List.pairwise_iff_getElem.mp (List.nodup_iff_pairwise_ne.mp hnd)
    rcases Nat.lt_trichotomy i j with h | h | h
    · exact absurd e3 (hp i j hi' hj' h)
    · exact h
    · exact absurd e3.symm (hp j i hj' hi' h)
  refine Wk.wp (n := vs.length) (lt := fun i j => decide (kkey ps i < kkey ps j)) (fun i j C hi hj hC => ?_) ?_
  · obtain ⟨a, x, t, y, u, ea, ep, hma⟩ := hgp i hi
    obtain ⟨b, x', t', y', u', eb, eq, hmb⟩ := hgp j hj
    unfold kas_ask
    rw [ea, eb]
    refine key_lt (N' _ (.tail _ (hsub _ hma))).1 (N' _ (.tail _ (hsub _ hmb))).1 fun r hr' => ?_
    have hk := hkey i j hi hj
    rw [ep, eq] at hk
    rw [hr']
    rw [show decide (x < x' ∨ x = x' ∧ y < y') = decide (kkey ps i < kkey ps j) from decide_eq_decide.mpr hk.symm]
    exact hC
  · refine wk_sort hinj h1 fun p G hI => ?_
    have hps := G.size
    refine KasFin.intro F' N' (.head fun q hq => Nat.ne_of_lt (hD q hq)) fun h2 c F2 N2 => ?_
    have ez : (p.toList.map fun i => vs.getD i Value.none) = (p.toList.map fun i => (vs.getD i Value.none, ps.getD i (0, 0))).map (·.1) := by rw [List.map_map]; rfl
    rw [ez] at N2
    refine h D c _ h2 F2 N2 hD ?_ ?_
    · refine (G.perm.map _).trans (List.Perm.of_eq ?_)
      apply List.ext_getElem
      · simp [hlen]
      · intro i hi hi2
        simp only [List.length_map, List.length_range] at hi
        simp [hi, show i < ps.length by omega]
    · rw [List.pairwise_map, List.pairwise_iff_getElem]
      intro i j hi hj hij
      rw [Array.length_toList] at hi hj
      have z := hI i j hij (by omega)
      unfold KP at z
      rw [hkey _ _ (G.at (by omega)) (G.at (by omega))] at z
      have ei : p.getD i 0 = p.toList[i]'(by rw [Array.length_toList]; omega) := by simp [Array.getD, show i < p.size by omega]
      have ej : p.getD j 0 = p.toList[j]'(by rw [Array.length_toList]; omega) := by simp [Array.getD, show j < p.size by omega]
      rw [ei, ej] at z
      exact z
end
end Mine
end

section
open PySem PySem.Spec PySem.Calls PySem.W PyProof.Rows PyProof.Rows.LCg
set_option Elab.async false
set_option maxRecDepth 100000
set_option maxHeartbeats 8000000
namespace Mine
theorem exec_asg_plain {M : Model} {A : Around} {E : Value → Shared → Prop} {s : Shared} {env : Env} {x : Str} {px spos : Pos} {value : Expr} {Q : Flow → Shared → Prop} (hs : swapsWith value (some (.Name x px)) spos.line env = pure false)
    (h : wpAny M A (eval value env) (fun v s₁ => wpAny M A (storeName env x v) (fun _ s₂ => Q .next s₂) E s₁) E s) : wpAny M A (exec (.Assign [.Name x px] value spos) env) Q E s := by
  rw [exec_Assign_Name (hs := hs)]
  refine wpAny_bind (wpAny_standAt (wpAny_bind (wpAny_mono h (fun v s₁ h₁ => wpAny_bind (wpAny_standAt (wpAny_bind (wpAny_bindName (wpAny_mono h₁ (fun _ s₂ h₂ => wpAny_pure h₂) fun _ _ e => e))))) fun _ _ e => e)))
theorem list_eq_same {prog : Program} {w : World} {A : Around} {E : Value → Shared → Prop} {s : Shared} {h₀ : Heap} {L : Addr} {a b : Addr} {xs ys : List Value} {ka kb : Nat} {qs : List (Int × Int)} {n₁ n₂ news : List (Addr × Obj)} {Q : Value → Shared → Prop} (N : News h₀ L s.heap news) (ma : (a, W.listOf xs.toArray ka) ∈ news) (mb : (b, W.listOf ys.toArray kb) ∈ news) (ha : PairsAt n₁ xs qs) (sa : ∀ p ∈ n₁, p ∈ news) (hb : PairsAt n₂ ys qs) (sb : ∀ p ∈ n₂, p ∈ news) (hu : A.units + 64 < cLine) (h : Q (.bool true) s) :
    wpAny (model prog w) A (compareOp .Eq (.ref a) (.ref b)) Q E s :=
  kqd_eq N ma rfl rfl ha.dat sa mb rfl rfl hb.dat sb (dat_ok _) (dat_ok _) hu (by simp only [eq_self, decide_true]; exact h)
end Mine
end

section
open PySem PySem.Spec PySem.Calls PySem.W PyProof.Rows PyProof.Rows.LCg
set_option maxRecDepth 100000
set_option maxHeartbeats 8000000
namespace Mine
local macro_rules | `(tactic| walk_at "nostop") => `(tactic| ((fail_if_success (with_reducible show wpAny _ _ (exec (Stmt.For _ _ _ _ _) _) _ _ _)); (fail_if_success (with_reducible show wpAny _ _ (eval (Expr.ListComp _ _ _ _) _) _ _ _)); (fail_if_success (with_reducible show wpAny _ _ (exec (Stmt.Assign _ (Expr.ListComp _ _ _ _) _) _) _ _ _)); (fail_if_success (with_reducible show wpAny _ _ (call (Value.ref _) _) _ _ _)); (fail_if_success (with_reducible show wpAny _ _ (call (Value.builtin "len") _) _ _ _)); (fail_if_success (with_reducible show wpAny _ _ (subscriptTail _ _ (Value.ref _) (Value.int _ _)) _ _ _)); (fail_if_success (with_reducible show wpAny _ _ (compareOp CmpOp.In _ _) _ _ _))))
local macro_rules | `(tactic| walk_at "S") => `(tactic| repeat' (first | (k_unfold; (try dsimp only)) | (k_end; wrow_close) | (walk_at "nostop"; walk1) | (dsimp only; walk_at "nostop"; walk1) | (leave1; walk_say "STEP leave1"; try dsimp only) | fail "no step"))
local macro_rules | `(tactic| k_all) => `(tactic| assumption)
local macro_rules | `(tactic| size_fits) => `(tactic| with_reducible assumption)
local macro_rules | `(tactic| walk_at "nostop2") => `(tactic| ((fail_if_success (with_reducible show wpAny _ _ (exec (Stmt.For _ _ _ _ _) _) _ _ _)); (fail_if_success (with_reducible show wpAny _ _ (eval (Expr.ListComp _ _ _ _) _) _ _ _)); (fail_if_success (with_reducible show wpAny _ _ (exec (Stmt.Assign _ (Expr.ListComp _ _ _ _) _) _) _ _ _)); (fail_if_success (with_reducible show wpAny _ _ (call (Value.ref _) _) _ _ _)); (fail_if_success (with_reducible show wpAny _ _ (call (Value.builtin "len") _) _ _ _)); (fail_if_success (with_reducible show wpAny _ _ (subscriptTail _ _ (Value.ref _) (Value.int _ _)) _ _ _)); (fail_if_success (with_reducible show wpAny _ _ (compareOp CmpOp.In _ _) _ _ _)); (fail_if_success (with_reducible show wpAny _ _ (compareOp CmpOp.GtE (Value.ref _) _) _ _ _)); (fail_if_success (with_reducible show wpAny _ _ (compareOp CmpOp.NotEq (Value.ref _) _) _ _ _)); (fail_if_success (with_reducible show wpAny _ _ (compareOp CmpOp.Eq (Value.ref _) _) _ _ _)); (fail_if_success (with_reducible show wpAny _ _ (call (Value.builtin "sorted") _) _ _ _))))
local macro_rules | `(tactic| walk_at "S2") => `(tactic| repeat' (first | (k_unfold; (try dsimp only)) | (k_end; wrow_close) | (walk_at "nostop2"; walk1) | (dsimp only; walk_at "nostop2"; walk1) | (leave1; walk_say "STEP leave1"; try dsimp only) | fail "no step"))

theorem X : PySem.Challenge.rw_gg0003_01.Holds := Mine.hd (by
  k_go0
  all_goals (try k_fold)
  rename_i w s₀ s₁ mg mb G Y fa o pm doc ho hg KX X V GL T0 B TE TW w1 w2 M w3 ccd hcd ns hs hlay0 hL0 hr hl2 w5 w6 sl vs w7 hL ra wl r0 hI hr2 hlen ht B0 hD h₁ tk₁ F0 o5 o4 o3 o2 o1 d5 d4 d3 d2 d1 N0 X0
  refine wpAny_mono (Q := LawEnd s₁) ?main ?post fun _ _ e => e
  case post =>
    rintro _ _ ⟨rfl, h', tk', m, nw, rfl, F9, N9⟩
    k_end
    wrow_close
  case main =>
  clear G Y ho X V GL B TE TW M hcd hs hlay0 hL0 hr hl2 ra wl r0 hr2 ht hD X0
  have B1 : Below callerA s₁.heap [] s₁.heap := B0
  clear B0
  show wpAny _ (ktrTop _ _ _ _ _ _ _ _ _ _) _ _ _ _
  walk_at "S"
  refine (ties_spec w sl vs ns hI (by omega) _).use B1 F0 KX N0 T0 (by rfl) hL (by decide) (by decide) ?_
  rintro r tl h2 tk2 F1 N1 ⟨rt, lt, its, n, N, tm, rfl, hrt, hlt, hN, hP, hsz⟩
  generalize (bindL _ _ _) = M0 at F1
  obtain ⟨pl, hPl, hpl⟩ := hP.own
  generalize hL1 : s₁.heap.objs.size + 1 = c1 at N1
  generalize hL2 : c1 + 1 = c2 at N1
  generalize hL3 : c2 + 1 = c3 at N1
  generalize hL4 : c3 + 1 = c4 at N1
  generalize hL5 : c4 + 1 = c5 at N1
  have mC : ∀ p ∈ [(c5, o5), (c4, o4), (c3, o3), (c2, o2), (c1, o1)], p ∈ tl ++ [(c5, o5), (c4, o4), (c3, o3), (c2, o2), (c1, o1)] := fun p hp => List.mem_append_right _ hp
  have m1 := mC (c1, o1) (by simp)
  have m2 := mC (c2, o2) (by simp)
  have m3 := mC (c3, o3) (by simp)
  have m4 := mC (c4, o4) (by simp)
  have m5 := mC (c5, o5) (by simp)
  have ml := List.mem_append_left [(c5, o5), (c4, o4), (c3, o3), (c2, o2), (c1, o1)] hlt
  have mr := List.mem_append_left [(c5, o5), (c4, o4), (c3, o3), (c2, o2), (c1, o1)] hrt
  have nl1 := news_ne N1 ml m1 rfl d1
  have nl2 := news_ne N1 ml m2 rfl d2
  have nl3 := news_ne N1 ml m3 rfl d3
  have nl4 := news_ne N1 ml m4 rfl d4
  have nl5 := news_ne N1 ml m5 rfl d5
  have nr1 := news_ne N1 mr m1 rfl d1
  have nr2 := news_ne N1 mr m2 rfl d2
  have np1 : ∀ p ∈ pl, p.1 ≠ c1 := fun p hp => by obtain ⟨h, xs, k, e⟩ := hpl p hp; exact news_ne N1 (List.mem_append_left _ h) m1 e d1
  have np2 : ∀ p ∈ pl, p.1 ≠ c2 := fun p hp => by obtain ⟨h, xs, k, e⟩ := hpl p hp; exact news_ne N1 (List.mem_append_left _ h) m2 e d2
  have np3 : ∀ p ∈ pl, p.1 ≠ c3 := fun p hp => by obtain ⟨h, xs, k, e⟩ := hpl p hp; exact news_ne N1 (List.mem_append_left _ h) m3 e d3
  have np4 : ∀ p ∈ pl, p.1 ≠ c4 := fun p hp => by obtain ⟨h, xs, k, e⟩ := hpl p hp; exact news_ne N1 (List.mem_append_left _ h) m4 e d4
  have np5 : ∀ p ∈ pl, p.1 ≠ c5 := fun p hp => by obtain ⟨h, xs, k, e⟩ := hpl p hp; exact news_ne N1 (List.mem_append_left _ h) m5 e d5
  have N2 : News s₁.heap s₁.heap.objs.size h2 ((c2, o2) :: (c1, o1) :: (c5, o5) :: (c4, o4) :: (c3, o3) :: (lt, W.listOf its n) :: pl) := fun p hp => N1 p (by
    simp only [List.mem_cons] at hp
    rcases hp with rfl | rfl | rfl | rfl | rfl | rfl | hp
    · exact m2
    · exact m1
    · exact m5
    · exact m4
    · exact m3
    · exact ml
    · exact List.mem_append_left _ (hpl p hp).1)
  have tT : h2.IsTuple rt #[.ref lt, .int N tm] := ⟨_, (N1 _ mr).1, rfl, _, rfl⟩
  clear N1 F0 N0 mC m1 m2 m3 m4 m5 ml mr hL hI
  have q1 : ∀ p ∈ (c5, o5) :: (c4, o4) :: (c3, o3) :: (lt, W.listOf its n) :: pl, p.1 ≠ c1 := by
    intro p hp
    simp only [List.mem_cons] at hp
    rcases hp with rfl | rfl | rfl | rfl | hp
    · show c5 ≠ c1; omega
    · show c4 ≠ c1; omega
    · show c3 ≠ c1; omega
    · exact nl1
    · exact np1 p hp
  have q2 : ∀ p ∈ (c5, o5) :: (c4, o4) :: (c3, o3) :: (lt, W.listOf its n) :: pl, p.1 ≠ c2 := by
    intro p hp
    simp only [List.mem_cons] at hp
    rcases hp with rfl | rfl | rfl | rfl | hp
    · show c5 ≠ c2; omega
    · show c4 ≠ c2; omega
    · show c3 ≠ c2; omega
    · exact nl2
    · exact np2 p hp
  have q12 : @Ne Nat c1 c2 := by omega
  subst hL5 hL4 hL3 hL2 hL1
  refine asg_pair_cells (by rfl) tT (by rfl) (by rfl) (by rfl) (by rfl) (by rfl) F1 N2 d1 d2 q12 q1 q2 fun hh3 tk3 oT oM F3 N3' dT dM => ?_
  clear tT q1 q2 q12 N2 F1
  have N3 : News s₁.heap s₁.heap.objs.size hh3 ((s₁.heap.objs.size + 1 + 1 + 1 + 1 + 1, o5) :: (s₁.heap.objs.size + 1 + 1 + 1 + 1, o4) :: (s₁.heap.objs.size + 1 + 1 + 1, o3) :: (s₁.heap.objs.size + 1 + 1, oM) :: (s₁.heap.objs.size + 1, oT) :: (lt, W.listOf its n) :: pl) := fun p hp => N3' p (by
    simp only [List.mem_cons] at hp ⊢
    rcases hp with hp | hp | hp | hp | hp | hp | hp <;> simp only [hp, true_or, or_true])
  clear N3' nr1 nr2 hrt hlt hpl d1 d2
  obtain ⟨ps, hps⟩ : ∃ ps, ps = tiesFrom 0 N (ns.take 15) := ⟨_, rfl⟩
  rw [← hps] at hPl hP
  have hplen : (ps.length : Int) = N := by
    rw [hps, tiesFrom_length, List.length_take]
    omega
  have hitl : its.toList.length = ps.length := hPl.length
  have hG : Graceful ps N := by rw [hps]; exact ties_graceful _ _ (by rw [List.length_take]; omega)
  have hN1 : 1 ≤ N := by omega
  have hN16 : N ≤ 16 := by omega
  have hp16 : ps.length ≤ 16 := by omega
  clear hP
  walk_at "S"
  refine kun_lenL (k := N) ⟨_, (N3 (lt, _) (.tail _ (.tail _ (.tail _ (.tail _ (.tail _ (.head _))))))).1, rfl, _, rfl⟩ (by rw [← Array.length_toList]; omega) (by omega) ?_
  walk_at "S"
  · rename_i hc
    exact absurd rfl hc
  refine (graceful_spec w lt its n ps N tm _ (.tail _ (.tail _ (.tail _ (.tail _ (.tail _ (.head _)))))) (hPl.mono fun p hp => .tail _ (.tail _ (.tail _ (.tail _ (.tail _ (.tail _ hp)))))) hp16 hN1 hN16 hG).use B1 F3 KX N3 T0 (by rfl) True.intro (by decide) (by decide) ?_
  rintro r tl4 hh4 tk4 F4 N4' rfl
  have N4 : News s₁.heap s₁.heap.objs.size hh4 ((s₁.heap.objs.size + 1 + 1 + 1 + 1 + 1, o5) :: (s₁.heap.objs.size + 1 + 1 + 1 + 1, o4) :: (s₁.heap.objs.size + 1 + 1 + 1, o3) :: (s₁.heap.objs.size + 1 + 1, oM) :: (s₁.heap.objs.size + 1, oT) :: (lt, W.listOf its n) :: pl) := fun p hp => N4' p (List.mem_append_right _ hp)
  clear N4' N3 F3
  walk_at "S"
  refine (counts_spec w lt its n ps N tm _ (.tail _ (.tail _ (.tail _ (.tail _ (.tail _ (.head _)))))) (hPl.mono fun p hp => .tail _ (.tail _ (.tail _ (.tail _ (.tail _ (.tail _ hp)))))) hp16 hN1 hN16 hG.within hG.ne (fun x => theres_nodup hG.nodup hG.ne)).use B1 F4 KX N4 T0 (by rfl) True.intro (by decide) (by decide) ?_
  rintro r tl5 hh5 tk5 F5 N5' ⟨cl, cits, cn, rfl, hcl, hcI⟩
  have nc3 := news_ne N5' (List.mem_append_left _ hcl) (List.mem_append_right _ (.tail _ (.tail _ (.head _)))) rfl d3
  have nc4 := news_ne N5' (List.mem_append_left _ hcl) (List.mem_append_right _ (.tail _ (.head _))) rfl d4
  have nc5 := news_ne N5' (List.mem_append_left _ hcl) (List.mem_append_right _ (.head _)) rfl d5
  have N5 : News s₁.heap s₁.heap.objs.size hh5 ((s₁.heap.objs.size + 1 + 1 + 1 + 1 + 1, o5) :: (s₁.heap.objs.size + 1 + 1 + 1 + 1, o4) :: (s₁.heap.objs.size + 1 + 1 + 1, o3) :: (s₁.heap.objs.size + 1 + 1, oM) :: (s₁.heap.objs.size + 1, oT) :: (cl, W.listOf cits cn) :: (lt, W.listOf its n) :: pl) := fun p hp => N5' p (by
    simp only [List.mem_cons] at hp
    rcases hp with rfl | rfl | rfl | rfl | rfl | rfl | hp
    · exact List.mem_append_right _ (.head _)
    · exact List.mem_append_right _ (.tail _ (.head _))
    · exact List.mem_append_right _ (.tail _ (.tail _ (.head _)))
    · exact List.mem_append_right _ (.tail _ (.tail _ (.tail _ (.head _))))
    · exact List.mem_append_right _ (.tail _ (.tail _ (.tail _ (.tail _ (.head _)))))
    · exact List.mem_append_left _ hcl
    · exact List.mem_append_right _ (.tail _ (.tail _ (.tail _ (.tail _ (.tail _ (List.mem_cons.mpr hp)))))))
  clear N5' N4 F4 hcl
  walk_at "S"
  rename_i hh6 o3' F6 N6 d3'
  refine comp_eval (by with_unfolding_all rfl) (by rfl) (by decide) ?_ (by intro _; with_unfolding_all rfl)
  walk_at "S"
  rename_i hr7 F7 N7 _
  have hltm : (lt, W.listOf its n) ∈ ((s₁.heap.objs.size + 1 + 1 + 1 + 1 + 1, o5) :: (s₁.heap.objs.size + 1 + 1 + 1 + 1, o4) :: (s₁.heap.objs.size + 1 + 1 + 1, o3') :: (s₁.heap.objs.size + 1 + 1, oM) :: (s₁.heap.objs.size + 1, oT) :: (cl, W.listOf cits cn) :: (lt, W.listOf its n) :: pl) := .tail _ (.tail _ (.tail _ (.tail _ (.tail _ (.tail _ (.head _))))))
  have hBpl : ∀ p ∈ pl, p ∈ ((s₁.heap.objs.size + 1 + 1 + 1 + 1 + 1, o5) :: (s₁.heap.objs.size + 1 + 1 + 1 + 1, o4) :: (s₁.heap.objs.size + 1 + 1 + 1, o3') :: (s₁.heap.objs.size + 1 + 1, oM) :: (s₁.heap.objs.size + 1, oT) :: (cl, W.listOf cits cn) :: (lt, W.listOf its n) :: pl) := fun p hp => .tail _ (.tail _ (.tail _ (.tail _ (.tail _ (.tail _ (.tail _ hp))))))
  refine src_range (n := (N + 1).toNat) (by rfl) (.cell (by rfl) (by decide) (by decide)) (fun _ C i ys nw => ∃ o v, nw = (C + 1, o) :: ((s₁.heap.objs.size + 1 + 1 + 1 + 1 + 1, o5) :: (s₁.heap.objs.size + 1 + 1 + 1 + 1, o4) :: (s₁.heap.objs.size + 1 + 1 + 1, o3') :: (s₁.heap.objs.size + 1 + 1, oM) :: (s₁.heap.objs.size + 1, oT) :: (cl, W.listOf cits cn) :: (lt, W.listOf its n) :: pl) ∧ o.data = .cell v ∧ (∀ p ∈ ((s₁.heap.objs.size + 1 + 1 + 1 + 1 + 1, o5) :: (s₁.heap.objs.size + 1 + 1 + 1 + 1, o4) :: (s₁.heap.objs.size + 1 + 1 + 1, o3') :: (s₁.heap.objs.size + 1 + 1, oM) :: (s₁.heap.objs.size + 1, oT) :: (cl, W.listOf cits cn) :: (lt, W.listOf its n) :: pl), p.1 < C) ∧ ys.length = i ∧ IntsAre ys ((List.range i).map fun j => ((ps.filter fun p => decide (p.1 = ((j : Nat) : Int) ∨ p.2 = ((j : Nat) : Int))).length : Int))) (by omega) F7 N7 hr7 (small_one (by decide) (by decide) (by omega) (by omega)) (by rw [rangeSize_nat]; congr 2; omega)
    (fun C hC => ⟨_, none, rfl, rfl, hC, rfl, .nil⟩) (fun _ _ _ _ _ h => by obtain ⟨_, _, _, _, _, h, _⟩ := h; omega) ?_ ?_
  · rintro I _ C D i t ys nw h tk io mc oC ⟨oc, vc, rfl, doc', hlC, hyl, hI9⟩ hi Bk E'
    refine asg_cell Bk doc' (by rfl) (by rfl) (by rfl) (fun p hp => Nat.ne_of_lt (Nat.lt_succ_of_lt (hlC p hp))) fun hh8 oc8 Bk8 dc8 => ?_
    refine wpAny_tests_nil ?_
    simp only [if_true]
    have hoffB := Bk8.off
    have hneB := Bk8.ne
    have F8 := Bk8.F
    have N8 := Bk8.N
    have hC8 := Bk8.c
    walk_at "S"
    refine comp_eval (by with_unfolding_all rfl) (by rfl) (by decide) ?_ (by intro _; with_unfolding_all rfl)
    walk_at "S"
    refine src_list (its := its.toList) (by rfl) (.plain (by decide) (by rfl)) (fun _ _ e ys2 nw2 => nw2 = ((I, io) :: (C, oC) :: (D, lst ys) :: (C + 1, oc8) :: ((s₁.heap.objs.size + 1 + 1 + 1 + 1 + 1, o5) :: (s₁.heap.objs.size + 1 + 1 + 1 + 1, o4) :: (s₁.heap.objs.size + 1 + 1 + 1, o3') :: (s₁.heap.objs.size + 1 + 1, oM) :: (s₁.heap.objs.size + 1, oT) :: (cl, W.listOf cits cn) :: (lt, W.listOf its n) :: pl)) ∧ ys2.length = ((ps.take e).filter fun p => decide (p.1 = ((i : Nat) : Int) ∨ p.2 = ((i : Nat) : Int))).length ∧ ys2.length ≤ e) (by omega) F8 N8 ⟨_, (N8 (lt, _) (.tail _ (.tail _ (.tail _ (.tail _ hltm))))).1, rfl, _, by rw [Array.toArray_toList]⟩
      (fun C2 _ => ⟨rfl, by simp, Nat.zero_le _⟩) (fun _ _ _ _ _ h => h.2.2) (fun _ _ e ys2 nw2 h hJ _ N => by rw [hJ.1] at N; exact ⟨_, (N (lt, _) (.tail _ (.tail _ (.tail _ (.tail _ hltm))))).1, rfl, _, by rw [Array.toArray_toList]⟩) ?_ ?_
    · rintro I2 _ C2 D2 e v ys2 nw2 h2 tk2 io2 mc2 oC2 ⟨rfl, hy2, hle2⟩ hv Bk2 E2
      obtain ⟨T, x, tx, y, ty, rfl, hpi, hT⟩ := hPl.get hv
      refine asg_name Bk2 (by rfl) (by rfl) fun h₁ oC₁ Bk₁ => ?_
      refine wpAny_tests_one ?_
      have F9 := Bk₁.F
      have N9 := Bk₁.N
      have hC9 := Bk₁.c
      have hx1 : (fun z => if z = Str.ofString "tie" then some (.ref T) else mc2 z) (Str.ofString "tie") = some (.ref T) := by rfl
      walk_at "S"
      have hfl : ∀ b, b = decide (x = ((i : Nat) : Int) ∨ y = ((i : Nat) : Int)) → ((ps.take (e + 1)).filter fun p => decide (p.1 = ((i : Nat) : Int) ∨ p.2 = ((i : Nat) : Int))).length = ((ps.take e).filter fun p => decide (p.1 = ((i : Nat) : Int) ∨ p.2 = ((i : Nat) : Int))).length + (if b = true then 1 else 0) := by
        rintro b rfl
        rw [List.take_add_one, hpi, List.filter_append, List.length_append]
        simp only [Option.toList_some, List.filter_cons, List.filter_nil]
        split <;> simp
      refine pair_in (N9 (T, tup2 x tx y ty) (.tail _ (.tail _ (.tail _ (.tail _ (.tail _ (.tail _ (.tail _ (hBpl _ hT))))))))).1 fun r hr => ?_
      rw [Int.zero_add] at hr
      have hfl2 := hfl r hr
      cases r with
      | true =>
        walk_at "S"
        refine CompTurn.keep Bk₁ F9 N9 (fun p hp => hp) Bk₁.off ⟨rfl, ?_, ?_⟩
        · rw [hfl2, ← hy2]; simp
        · simp only [Option.toList_some, List.length_append, List.length_singleton]; omega
      | false =>
        walk_at "S"
        refine CompTurn.keep Bk₁ F9 N9 (fun p hp => hp) Bk₁.off ⟨rfl, ?_, ?_⟩
        · rw [hfl2, ← hy2]; simp
        · simp only [Option.toList_none, List.append_nil]; omega
    · rintro _ D2 C2 h2 tk2 mc2 ys2 nw2 ⟨rfl, hy2, hle2⟩ F9 N9 hc2 h02 hL2 hD2 off2
      refine post_eval F9 N9 hc2 h02 hL2 hD2 off2 fun h₁ F10 N10 => ?_
      rw [hitl, List.take_length] at hy2
      walk_at "S"
      refine kun_lenL (k := (ys2.length : Int)) ⟨_, (N10 (D2, _) (.head _)).1, rfl, _, rfl⟩ (by simp) (by omega) ?_
      walk_at "S"
      refine CompTurn.keep Bk8 F10 N10 (fun p hp => .tail _ hp) Bk8.off ⟨oc8, _, rfl, dc8, hlC, by simp [hyl], ?_⟩
      rw [List.range_succ, List.map_append, hy2]
      exact hI9.append (.cons _ _ .nil)
  · rintro _ D C h tk mc ys nw ⟨oc, vc, rfl, doc', hlC, hyl, hI9⟩ F8 N8 hc h0 hL hD off
    refine post_eval F8 N8 hc h0 hL hD off fun h₁ F9 N9 => ?_
    clear F7 N7
    have hCnt : List.map (fun x => ((theres ps [] x).length : Int)) (rangeKs 0 (N + 1).toNat) = List.map (fun j => ((List.filter (fun p => decide (p.1 = ((j : Nat) : Int) ∨ p.2 = ((j : Nat) : Int))) ps).length : Int)) (List.range (N + 1).toNat) := counts_eq ps _ hG.ne
    have hSum : (List.map (fun x => ((theres ps [] x).length : Int)) (rangeKs 0 (N + 1).toNat)).sum = 2 * N := by rw [theres_sum ps N hG.within, hplen]
    walk_at "S"
    all_goals first
      | (rename _ ≠ 2 * N => hc; exact absurd hSum hc)
      | (rename ¬ List.map _ (rangeKs _ _) = _ => hc; exact absurd hCnt hc)
      | skip
    rename_i hh9 _ _ F10 N10' _
    have N10 : News s₁.heap s₁.heap.objs.size hh9 ((s₁.heap.objs.size + 1 + 1 + 1 + 1 + 1, o5) :: (s₁.heap.objs.size + 1 + 1 + 1 + 1, o4) :: (s₁.heap.objs.size + 1 + 1 + 1, o3') :: (s₁.heap.objs.size + 1 + 1, oM) :: (s₁.heap.objs.size + 1, oT) :: (cl, W.listOf cits cn) :: (lt, W.listOf its n) :: pl) := fun p hp => N10' p (.tail _ (.tail _ hp))
    clear N10' hSum hCnt F9 N9 N8 F8 hI9 hyl hlC doc' hc h0 hL hD off
    have hclm : (cl, W.listOf cits cn) ∈ ((s₁.heap.objs.size + 1 + 1 + 1 + 1 + 1, o5) :: (s₁.heap.objs.size + 1 + 1 + 1 + 1, o4) :: (s₁.heap.objs.size + 1 + 1 + 1, o3') :: (s₁.heap.objs.size + 1 + 1, oM) :: (s₁.heap.objs.size + 1, oT) :: (cl, W.listOf cits cn) :: (lt, W.listOf its n) :: pl) := .tail _ (.tail _ (.tail _ (.tail _ (.tail _ (.head _)))))
    have hci : ∀ x, 0 ≤ x → x ≤ N → ∃ t, cits[x.toNat]? = some (.int ((theres ps [] x).length : Int) t) := by
      intro x h1 h2
      have e : ((rangeKs 0 (N + 1).toNat).map fun x => ((theres ps [] x).length : Int))[x.toNat]? = some ((theres ps [] x).length : Int) := by
        unfold rangeKs
        rw [List.getElem?_map, List.getElem?_map, List.getElem?_range (by omega)]
        show some (((theres ps [] (0 + ((x.toNat : Nat) : Int))).length : Int)) = some ((theres ps [] x).length : Int)
        rw [show (0 : Int) + ((x.toNat : Nat) : Int) = x by omega]
      obtain ⟨t, ht⟩ := hcI.get _ _ e
      exact ⟨t, by rw [← Array.getElem?_toList]; exact ht⟩
    refine comp_use (by with_unfolding_all rfl) (by rfl) (by rfl) (by decide) ?_ (by intro _; with_unfolding_all rfl)
    walk_at "S"
    refine src_list (its := its.toList) (by rfl) (.plain (by decide) (by rfl)) (fun _ _ e ys nw => nw = ((s₁.heap.objs.size + 1 + 1 + 1 + 1 + 1, o5) :: (s₁.heap.objs.size + 1 + 1 + 1 + 1, o4) :: (s₁.heap.objs.size + 1 + 1 + 1, o3') :: (s₁.heap.objs.size + 1 + 1, oM) :: (s₁.heap.objs.size + 1, oT) :: (cl, W.listOf cits cn) :: (lt, W.listOf its n) :: pl) ∧ PairsAt pl ys ((ps.take e).filter fun p => decide (1 < (theres ps [] p.1).length ∧ 1 < (theres ps [] p.2).length)) ∧ ys.length ≤ e) (by omega) F10 N10 ⟨_, (N10 (lt, _) hltm).1, rfl, _, by rw [Array.toArray_toList]⟩
      (fun C2 _ => ⟨rfl, .nil, Nat.zero_le _⟩) (fun _ _ _ _ _ h => h.2.2) (fun _ _ e ys2 nw2 h hJ _ N => by rw [hJ.1] at N; exact ⟨_, (N (lt, _) hltm).1, rfl, _, by rw [Array.toArray_toList]⟩) ?_ ?_
    · rintro I2 _ C2 D2 e v ys2 nw2 h2 tk2 io2 mc2 oC2 ⟨rfl, hy2, hle2⟩ hv Bk2 E2
      obtain ⟨T, x, tx, y, ty, rfl, hpi, hT⟩ := hPl.get hv
      refine asg_name Bk2 (by rfl) (by rfl) fun h₁ oC₁ Bk₁ => ?_
      refine wpAny_tests_one ?_
      have F9 := Bk₁.F
      have N9' := Bk₁.N
      have N9 : News s₁.heap s₁.heap.objs.size h₁ ((T, tup2 x tx y ty) :: (I2, io2) :: (C2, oC₁) :: (D2, lst ys2) :: ((s₁.heap.objs.size + 1 + 1 + 1 + 1 + 1, o5) :: (s₁.heap.objs.size + 1 + 1 + 1 + 1, o4) :: (s₁.heap.objs.size + 1 + 1 + 1, o3') :: (s₁.heap.objs.size + 1 + 1, oM) :: (s₁.heap.objs.size + 1, oT) :: (cl, W.listOf cits cn) :: (lt, W.listOf its n) :: pl)) := fun p hp => N9' p (by
        rcases List.mem_cons.mp hp with rfl | hp
        · exact .tail _ (.tail _ (.tail _ (hBpl _ hT)))
        · exact hp)
      clear N9'
      have hC9 := Bk₁.c
      have hx1 : (fun z => if z = Str.ofString "tie" then some (.ref T) else mc2 z) (Str.ofString "tie") = some (.ref T) := by rfl
      have hxy := hG.within _ (List.mem_of_getElem? hpi)
      dsimp only at hxy
      walk_at "S"
      refine tup_at0 (N9 (T, _) (.head _)).1 ?_
      walk_at "S"
      obtain ⟨ta, hta⟩ := hci x hxy.1 hxy.2.1
      obtain ⟨tb, htb⟩ := hci y hxy.2.2.1 hxy.2.2.2
      have hfl : ∀ b, b = decide (1 < (theres ps [] x).length ∧ 1 < (theres ps [] y).length) → ((ps.take (e + 1)).filter fun p => decide (1 < (theres ps [] p.1).length ∧ 1 < (theres ps [] p.2).length)) = ((ps.take e).filter fun p => decide (1 < (theres ps [] p.1).length ∧ 1 < (theres ps [] p.2).length)) ++ (if b = true then [(x, y)] else []) := by
        rintro b rfl
        rw [List.take_add_one, hpi, List.filter_append]
        simp only [Option.toList_some, List.filter_cons, List.filter_nil]
      refine item_at N9 (.tail _ (.tail _ (.tail _ (.tail _ hclm)))) hxy.1 (by omega) hta ?_
      walk_at "S"
      · refine tup_at1 (N9 (T, _) (.head _)).1 ?_
        walk_at "S"
        refine item_at N9 (.tail _ (.tail _ (.tail _ (.tail _ hclm)))) hxy.2.2.1 (by omega) htb ?_
        walk_at "S"
        · rename_i ha hb
          refine CompTurn.keep Bk₁ F9 Bk₁.N (fun p hp => hp) Bk₁.off ⟨rfl, ?_, ?_⟩
          · rw [hfl true (decide_eq_true ⟨by omega, by omega⟩).symm]
            exact hy2.append (.cons hT .nil)
          · simp only [Option.toList_some, List.length_append, List.length_singleton]; omega
        · rename_i ha hb
          refine CompTurn.keep Bk₁ F9 Bk₁.N (fun p hp => hp) Bk₁.off ⟨rfl, ?_, ?_⟩
          · rw [hfl false (decide_eq_false (by omega)).symm]
            simpa using hy2
          · simp only [Option.toList_none, List.append_nil]; omega
      · rename_i ha
        refine CompTurn.keep Bk₁ F9 Bk₁.N (fun p hp => hp) Bk₁.off ⟨rfl, ?_, ?_⟩
        · rw [hfl false (decide_eq_false (by omega)).symm]
          simpa using hy2
        · simp only [Option.toList_none, List.append_nil]; omega
    · rintro _ D2 C2 h2 tk2 mc2 ys2 nw2 ⟨rfl, hy2, hle2⟩ F9 N9 hc2 h02 hL2 hD2 off2
      refine post_use (by rfl) (by rfl) (by rfl) F9 N9 hc2 h02 hL2 hD2 off2 fun h₁ F10 N10 => ?_
      rw [hitl, List.take_length] at hy2
      show wpAny _ _ _ _ _ _
      walk_at "S"
      rename_i Z hhz lz1 lz2 F11 N11 lz3
      obtain ⟨qs, hqs⟩ : ∃ qs, qs = ps.filter fun p => decide (1 < (theres ps [] p.1).length ∧ 1 < (theres ps [] p.2).length) := ⟨_, rfl⟩
      rw [← hqs] at hy2
      have hqm : ∀ p ∈ qs, p ∈ ps := fun p hp => by rw [hqs] at hp; exact (List.mem_filter.mp hp).1
      have hql : qs.length ≤ 16 := by rw [hqs]; exact Nat.le_trans (List.length_filter_le _ _) hp16
      have hqn : (qs.map fun p => ((p.2 - p.1).natAbs : Int)).Nodup := by
        rw [hqs]; exact List.Nodup.sublist (List.Sublist.map _ List.filter_sublist) hG.nodup
      have hqd : ∀ x, (theres qs [] x).length ≤ 2 := fun x => inner_line (ns.take 15) N (by rw [List.length_take]; omega) ps qs hps hqs x
      refine (counts_spec w D2 ys2.toArray _ qs N tm _ (.tail _ (.head _)) (by rw [List.toList_toArray]; exact hy2.mono fun p hp => .tail _ (.tail _ (hBpl p hp))) hql hN1 hN16 (fun p hp => hG.within p (hqm p hp)) (fun p hp => hG.ne p (hqm p hp)) (fun x => theres_nodup hqn fun p hp => hG.ne p (hqm p hp))).use B1 F11 KX N11 T0 (by rfl) True.intro (by decide) (by decide) ?_
      rintro r tl6 hh12 tk12 F12 N12' ⟨cl2, cits2, cn2, rfl, hcl2, hcI2⟩
      walk_at "S"
      · rename_i haM hbM hbig
        exfalso
        rcases List.mem_append.mp haM with h | h
        · rw [List.mem_singleton.mp h] at hbig; omega
        · obtain ⟨x, _, hx⟩ := List.mem_map.mp h
          have := hqd x
          omega
      rename_i D9 ws9 hh13 lz4 hI13 hh14 M9 t9 k9 F13 N13' _ _ _
      have N13 : News s₁.heap s₁.heap.objs.size hh14 ((s₁.heap.objs.size + 1 + 1 + 1 + 1 + 1, o5) :: (s₁.heap.objs.size + 1 + 1 + 1 + 1, o4) :: (s₁.heap.objs.size + 1 + 1 + 1, o3') :: (s₁.heap.objs.size + 1 + 1, oM) :: (s₁.heap.objs.size + 1, oT) :: (cl, W.listOf cits cn) :: (lt, W.listOf its n) :: pl) := fun p hp => N13' p (.tail _ (List.mem_append_right _ (.tail _ (.tail _ hp))))
      clear N13' hI13 lz4 hcI2 hcl2 hqd hqn hql hqm hqs hy2 hle2 hc2 h02 hL2 hD2 off2
      refine comp_eval (by with_unfolding_all rfl) (by rfl) (by decide) ?_ (by intro _; with_unfolding_all rfl)
      walk_at "S"
      refine src_list (its := its.toList) (by rfl) (.plain (by decide) (by rfl)) (fun _ _ e ys nw => ∃ rest, nw = ((s₁.heap.objs.size + 1 + 1 + 1 + 1 + 1, o5) :: (s₁.heap.objs.size + 1 + 1 + 1 + 1, o4) :: (s₁.heap.objs.size + 1 + 1 + 1, o3') :: (s₁.heap.objs.size + 1 + 1, oM) :: (s₁.heap.objs.size + 1, oT) :: (cl, W.listOf cits cn) :: (lt, W.listOf its n) :: rest) ∧ (∀ p ∈ pl, p ∈ rest) ∧ PairsAt rest ys ((ps.take e).map fun p => (N - p.1, N - p.2)) ∧ ys.length = e) (by omega) F13 N13 ⟨_, (N13 (lt, _) hltm).1, rfl, _, by rw [Array.toArray_toList]⟩
        (fun C2 _ => ⟨pl, rfl, fun p hp => hp, PairsAt.nil, rfl⟩) (fun _ _ _ _ _ h => by obtain ⟨_, _, _, _, h⟩ := h; exact Nat.le_of_eq h) (fun _ _ e ys2 nw2 h hJ _ N => by obtain ⟨rest, rfl, _⟩ := hJ; exact ⟨_, (N (lt, _) (.tail _ (.tail _ (.tail _ (.tail _ (.tail _ (.tail _ (.head _)))))))).1, rfl, _, by rw [Array.toArray_toList]⟩) ?_ ?_
      · rintro I2 _ C2 D2 e v ys2 nw2 h2 tk2 io2 mc2 oC2 ⟨rest, rfl, hsub, hy2, hle2⟩ hv Bk2 E2
        obtain ⟨T, x, tx, y, ty, rfl, hpi, hT⟩ := hPl.get hv
        refine asg_pair (by rfl) Bk2 ⟨_, (Bk2.N (T, tup2 x tx y ty) (.tail _ (.tail _ (.tail _ (.tail _ (.tail _ (.tail _ (.tail _ (.tail _ (.tail _ (.tail _ (hsub _ hT)))))))))))).1, rfl, _, rfl⟩ (by rfl) (by rfl) (by rfl) fun h₁ tk₁ oC₁ Bk₁ => ?_
        refine wpAny_tests_nil ?_
        simp only [if_true]
        have F9 := Bk₁.F
        have N9 := Bk₁.N
        have hC9 := Bk₁.c
        have hoff9 := Bk₁.off
        have hx1 : (fun z => if z = Str.ofString "other" then some (.int y ty) else if z = Str.ofString "one" then some (.int x tx) else mc2 z) (Str.ofString "other") = some (.int y ty) := by rfl
        have hx2 : (fun z => if z = Str.ofString "other" then some (.int y ty) else if z = Str.ofString "one" then some (.int x tx) else mc2 z) (Str.ofString "one") = some (.int x tx) := by rfl
        have hxy := hG.within _ (List.mem_of_getElem? hpi)
        dsimp only at hxy
        walk_at "S"
        rename_i Dq hq9 F10 N10 lq
        refine CompTurn.keep Bk₁ F10 N10 (news' := (s₁.heap.objs.size + 1 + 1 + 1 + 1 + 1, o5) :: (s₁.heap.objs.size + 1 + 1 + 1 + 1, o4) :: (s₁.heap.objs.size + 1 + 1 + 1, o3') :: (s₁.heap.objs.size + 1 + 1, oM) :: (s₁.heap.objs.size + 1, oT) :: (cl, W.listOf cits cn) :: (lt, W.listOf its n) :: (Dq, tup2 (N - x) tk₁ (N - y) (tk₁ + 1)) :: rest) ?_ ?_ ⟨_, rfl, fun p hp => .tail _ (hsub p hp), ?_, by simp [hle2]⟩
        · intro p hp
          simp only [List.mem_cons, tup2] at hp ⊢
          rcases hp with hp | hp | hp | hp | hp | hp | hp | hp | hp | hp | hp | hp <;> simp only [hp, true_or, or_true]
        · intro p hp
          by_cases e : p = (Dq, tup2 (N - x) tk₁ (N - y) (tk₁ + 1))
          · rw [e]; exact ⟨Nat.ne_of_gt lq.1, Nat.ne_of_gt lq.2.1, Nat.ne_of_gt lq.2.2.1⟩
          · refine hoff9 p ?_
            simp only [List.mem_cons] at hp ⊢
            rcases hp with hp | hp | hp | hp | hp | hp | hp | hp | hp <;> first | exact absurd hp e | simp only [hp, true_or, or_true]
        · rw [List.take_add_one, hpi, List.map_append]
          exact (hy2.mono fun p hp => .tail _ hp).append (.cons (.head _) .nil)
      · rintro _ D2 C2 h2 tk2 mc2 ys2 nw2 ⟨rest, rfl, hsub, hy2, hle2⟩ F9 N9 hc2 h02 hL2 hD2 off2
        refine post_eval F9 N9 hc2 h02 hL2 hD2 off2 fun h₁ F10 N10 => ?_
        rw [hitl, List.take_length] at hy2
        walk_at "S"
        refine (graceful_spec w D2 ys2.toArray _ (ps.map fun p => (N - p.1, N - p.2)) N tm _ (.head _) (by rw [List.toList_toArray]; exact hy2.mono fun p hp => .tail _ (.tail _ (.tail _ (.tail _ (.tail _ (.tail _ (.tail _ (.tail _ hp)))))))) (by rw [List.length_map]; exact hp16) hN1 hN16 (hG.flip (by omega))).use B1 F10 KX N10 T0 (by rfl) True.intro (by decide) (by decide) ?_
        rintro r tl7 hh15 tk15 F15 N15' rfl
        have N15 : News s₁.heap s₁.heap.objs.size hh15 ((s₁.heap.objs.size + 1 + 1 + 1 + 1 + 1, o5) :: (s₁.heap.objs.size + 1 + 1 + 1 + 1, o4) :: (s₁.heap.objs.size + 1 + 1 + 1, o3') :: (s₁.heap.objs.size + 1 + 1, oM) :: (s₁.heap.objs.size + 1, oT) :: (lt, W.listOf its n) :: pl) := fun p hp => N15' p (by
          refine List.mem_append_right _ (List.mem_cons_of_mem _ ?_)
          simp only [List.mem_cons] at hp ⊢
          rcases hp with hp | hp | hp | hp | hp | hp | hp
          · simp only [hp, true_or, or_true]
          · simp only [hp, true_or, or_true]
          · simp only [hp, true_or, or_true]
          · simp only [hp, true_or, or_true]
          · simp only [hp, true_or, or_true]
          · simp only [hp, true_or, or_true]
          · simp only [hsub p hp, or_true])
        clear N15' N10 F10 N9 F9 N13 F13 hc2 h02 hL2 hD2 off2 hy2 hle2 hsub hBpl hltm
        walk_at "S"
        rename_i hh16 oO F16 N16 dO
        rename_i D3 _ _ _ _ _ _ _ _ _ _ _ _ ol _ hol
        refine wpAny_For ?_ (by intro _; with_unfolding_all rfl)
        walk_at "S"
        rename_i F17 N17
        have hln : ∀ p ∈ ((ol, W.listOf #[] 0) :: (s₁.heap.objs.size + 1 + 1 + 1 + 1 + 1, o5) :: (s₁.heap.objs.size + 1 + 1 + 1 + 1, oO) :: (s₁.heap.objs.size + 1 + 1 + 1, o3') :: (s₁.heap.objs.size + 1 + 1, oM) :: (s₁.heap.objs.size + 1, oT) :: (lt, W.listOf its n) :: pl), @LT.lt Nat _ p.1 (hh16.objs.size + 1) := fun p hp => Nat.lt_succ_of_lt (Heap.lt_size (N16 p hp).1)
        rw [krv_pick] at N17
        generalize hrl : (Shared.heap _).objs.size + 1 = rl at N17 ⊢
        replace hrl : hh16.objs.size + 1 = rl := hrl
        rw [hrl] at hln
        have hor : @Ne Nat rl ol := Nat.ne_of_gt (hln _ (.head _))
        have hol2 := allLt_mem hol.2.2.2.2.2.2
        have N18 : News s₁.heap s₁.heap.objs.size _ ((ol, W.listOf (([] : List (Value × (Int × Int))).map (·.1)).toArray 0) :: (rl, W.listOf its.toList.reverse.toArray 0) :: (s₁.heap.objs.size + 1 + 1 + 1 + 1 + 1, o5) :: (s₁.heap.objs.size + 1 + 1 + 1 + 1, oO) :: (s₁.heap.objs.size + 1 + 1 + 1, o3') :: (s₁.heap.objs.size + 1 + 1, oM) :: (s₁.heap.objs.size + 1, oT) :: (lt, W.listOf its n) :: pl) := fun p hp => by
          rcases List.mem_cons.mp hp with rfl | hp
          · exact N17 _ (.tail _ (.head _))
          rcases List.mem_cons.mp hp with rfl | hp
          · exact N17 _ (.head _)
          · exact N17 p (.tail _ (.tail _ hp))
        have hnd : (((its.toList.zip ps).reverse).map (·.2)).Nodup := by
          rw [List.map_reverse]
          refine nodup_rev ?_
          rw [List.map_snd_zip (Nat.le_of_eq hitl.symm)]
          exact hG.pairs_nodup
        clear N17 F16 N16
        refine for_list (fun i m nw => ∃ (zs : List (Value × (Int × Int))) (k : Nat), nw = (ol, W.listOf (zs.map (·.1)).toArray k) :: (rl, W.listOf its.toList.reverse.toArray 0) :: (s₁.heap.objs.size + 1 + 1 + 1 + 1 + 1, o5) :: (s₁.heap.objs.size + 1 + 1 + 1 + 1, oO) :: (s₁.heap.objs.size + 1 + 1 + 1, o3') :: (s₁.heap.objs.size + 1 + 1, oM) :: (s₁.heap.objs.size + 1, oT) :: (lt, W.listOf its n) :: pl ∧ i ≤ its.toList.length ∧ zs.Perm ((its.toList.zip ps).reverse.take i) ∧ zs.Pairwise fun a b => ltP a.2 b.2) 16 (by rfl) F17 N18 ⟨[], 0, rfl, Nat.zero_le _, .nil, .nil⟩ ?_ ?_ ?_
        · rintro i m nw h ⟨zs, k, rfl, hle, hp, hs⟩ F3 N3
          exact ⟨its.toList.reverse, ⟨_, (N3 (rl, _) (.tail _ (.head _))).1, rfl, _, rfl⟩, by rw [List.length_reverse]; exact hle, by rw [List.length_reverse, hitl]; exact hp16⟩
        · rintro i v m nw h tk it io its₂ ⟨zs, k, rfl, hle, hp, hs⟩ F3 N3 hoff hioc hlist hv E'
          have hxs : its.toList.reverse = its₂ := by
            obtain ⟨o, ho, _, _, hd⟩ := hlist
            have h2 := (N3 (rl, _) (.tail _ (.tail _ (.head _)))).1
            rw [ho] at h2
            rw [Option.some.inj h2] at hd
            injection hd with h4 _
            simpa using congrArg Array.toList h4
          subst hxs
          obtain ⟨q, hq⟩ := rev_zip hitl hv
          have hzZ : (v, q) ∈ its.toList.zip ps := List.mem_reverse.mp (List.mem_of_getElem? hq)
          obtain ⟨T, t, u, hvT, hT⟩ := hPl.mem _ hzZ
          obtain ⟨x, y⟩ := q
          replace hvT : v = .ref T := hvT
          subst hvT
          replace hT : (T, tup2 x t y u) ∈ pl := hT
          have hzs : PairsAt pl (zs.map (·.1)) (zs.map (·.2)) := hPl.sub fun z hz => List.mem_reverse.mp (List.mem_of_mem_take (hp.mem_iff.mp hz))
          have hzl : zs.length ≤ 16 := by rw [hp.length_eq, List.length_take, List.length_reverse, List.length_zip]; omega
          walk_at "S"
          rename_i hh18 F18 N19'
          have N19 : News s₁.heap s₁.heap.objs.size hh18 ((ol, W.listOf (zs.map (·.1)).toArray k) :: (it, io) :: (rl, W.listOf its.toList.reverse.toArray 0) :: (s₁.heap.objs.size + 1 + 1 + 1 + 1 + 1, o5) :: (s₁.heap.objs.size + 1 + 1 + 1 + 1, oO) :: (s₁.heap.objs.size + 1 + 1 + 1, o3') :: (s₁.heap.objs.size + 1 + 1, oM) :: (s₁.heap.objs.size + 1, oT) :: (lt, W.listOf its n) :: pl) := fun p hp => by
            rcases List.mem_cons.mp hp with rfl | hp
            · exact N19' _ (.tail _ (.head _))
            rcases List.mem_cons.mp hp with rfl | hp
            · exact N19' _ (.head _)
            · exact N19' p (.tail _ (.tail _ hp))
          refine (insort_spec w ol T (zs.map (·.1)) k (zs.map (·.2)) x y t u ((it, io) :: (rl, W.listOf its.toList.reverse.toArray 0) :: (s₁.heap.objs.size + 1 + 1 + 1 + 1 + 1, o5) :: (s₁.heap.objs.size + 1 + 1 + 1 + 1, oO) :: (s₁.heap.objs.size + 1 + 1 + 1, o3') :: (s₁.heap.objs.size + 1 + 1, oM) :: (s₁.heap.objs.size + 1, oT) :: (lt, W.listOf its n) :: pl) (hzs.mono fun p hp => .tail _ (.tail _ (.tail _ (.tail _ (.tail _ (.tail _ (.tail _ (.tail _ hp)))))))) (.tail _ (.tail _ (.tail _ (.tail _ (.tail _ (.tail _ (.tail _ (.tail _ hT)))))))) ?_ (by rw [List.length_map]; omega) (fun i j a b hij ha hb h => pairs_mono hs (q := (x, y)) hij ha hb h)).use B1 F18 KX N19 T0 (by rfl) (by decide) (by decide) ?_
          · intro p hp
            rcases List.mem_cons.mp hp with rfl | hp
            · exact fun e => hoff _ (.head _) e.symm
            rcases List.mem_cons.mp hp with rfl | hp
            · exact hor
            rcases List.mem_cons.mp hp with rfl | hp
            · exact Nat.ne_of_lt hol.1
            rcases List.mem_cons.mp hp with rfl | hp
            · exact Nat.ne_of_lt hol.2.1
            rcases List.mem_cons.mp hp with rfl | hp
            · exact Nat.ne_of_lt hol.2.2.1
            rcases List.mem_cons.mp hp with rfl | hp
            · exact Nat.ne_of_lt hol.2.2.2.1
            rcases List.mem_cons.mp hp with rfl | hp
            · exact Nat.ne_of_lt hol.2.2.2.2.1
            rcases List.mem_cons.mp hp with rfl | hp
            · exact Nat.ne_of_lt hol.2.2.2.2.2.1
            · exact Nat.ne_of_lt (hol2 p hp)
          rintro r nw hh20 tk20 F20 N20 ⟨rfl, j, k', hj, rfl, hj1, hj2⟩
          obtain ⟨zs', ez, hp', hs'⟩ := ins_turn hnd hq hp hs (j := j) hj1 hj2
          replace ez : (zs.map (·.1)).take j ++ .ref T :: (zs.map (·.1)).drop j = zs'.map (·.1) := ez
          rw [ez] at N20
          refine wpAny_execs_nil ?_
          refine ⟨hh20, tk20, _, _, rfl, F20, ?_, ?_, zs', k', rfl, ?_, hp', hs'⟩
          · intro p hp
            rcases List.mem_cons.mp hp with rfl | hp
            · exact N20 _ (.tail _ (.head _))
            rcases List.mem_cons.mp hp with rfl | hp
            · exact N20 _ (.head _)
            · exact N20 p (.tail _ (.tail _ hp))
          · intro p hp
            rcases List.mem_cons.mp hp with rfl | hp
            · exact hoff (ol, W.listOf (zs.map (·.1)).toArray k) (.head _)
            · exact hoff p (.tail _ hp)
          · have := (List.getElem?_eq_some_iff.mp hv).1
            rw [List.length_reverse] at this
            exact this
        · rintro i m nw h tk its₂ ⟨zs, k, rfl, hle, hp, hs⟩ F3 N3 hlist hi
          have hxs : its.toList.reverse = its₂ := by
            obtain ⟨o, ho, _, _, hd⟩ := hlist
            have h2 := (N3 (rl, _) (.tail _ (.head _))).1
            rw [ho] at h2
            rw [Option.some.inj h2] at hd
            injection hd with h4 _
            simpa using congrArg Array.toList h4
          subst hxs
          subst hi
          rw [List.length_reverse, List.take_of_length_le (by rw [List.length_reverse, List.length_zip]; omega)] at hp
          replace hp := hp.trans (List.reverse_perm _)
          have hop : PairsAt pl (zs.map (·.1)) (zs.map (·.2)) := hPl.sub fun z hz => hp.mem_iff.mp hz
          have hzl : zs.length = ps.length := by rw [hp.length_eq, List.length_zip]; omega
          have N19 : News s₁.heap s₁.heap.objs.size h ((ol, W.listOf (zs.map (·.1)).toArray k) :: (s₁.heap.objs.size + 1 + 1 + 1 + 1 + 1, o5) :: (s₁.heap.objs.size + 1 + 1 + 1 + 1, oO) :: (s₁.heap.objs.size + 1 + 1 + 1, o3') :: (s₁.heap.objs.size + 1 + 1, oM) :: (s₁.heap.objs.size + 1, oT) :: (lt, W.listOf its n) :: pl) := fun p hp => by
            rcases List.mem_cons.mp hp with rfl | hp
            · exact N3 _ (.head _)
            · exact N3 p (.tail _ (.tail _ hp))
          have F19 : Fr s₁.heap s₁.heap.objs.size h m := F3
          clear N3 N18 hlist hrl hor hln F3 F17
          walk_at "S"
          refine comp_eval (by with_unfolding_all rfl) (by rfl) (by decide) ?_ (by intro _; with_unfolding_all rfl)
          walk_at "S2"
          rename_i hh21 _ _ _ hr21 F21 N21 _
          refine src_range (n := (N - 1).toNat) (by rfl) (.plain (by decide) (by rfl)) (fun _ _ i ys nw => nw = ((ol, W.listOf (zs.map (·.1)).toArray k) :: (s₁.heap.objs.size + 1 + 1 + 1 + 1 + 1, o5) :: (s₁.heap.objs.size + 1 + 1 + 1 + 1, oO) :: (s₁.heap.objs.size + 1 + 1 + 1, o3') :: (s₁.heap.objs.size + 1 + 1, oM) :: (s₁.heap.objs.size + 1, oT) :: (lt, W.listOf its n) :: pl) ∧ ys = []) (by omega) F21 N21 hr21 (small_one (by decide) (by decide) (by omega) (by omega)) (rangeSize_nat _ _)
            (fun C hC => ⟨rfl, rfl⟩) (fun _ _ _ _ _ h => by rw [h.2]; exact Nat.zero_le _) ?_ ?_
          · rintro I _ C D i t ys nw h tk io mc oC ⟨rfl, rfl⟩ hi Bk E'
            refine asg_name Bk (by rfl) (by rfl) fun h₁ oC₁ Bk₁ => ?_
            refine wpAny_tests_one ?_
            have F9 := Bk₁.F
            have N9 := Bk₁.N
            have hC9 := Bk₁.c
            have hoff9 := Bk₁.off
            have hx1 : (fun z => if z = Str.ofString "k" then some (.int (1 + (i : Int)) t) else mc z) (Str.ofString "k") = some (.int (1 + (i : Int)) t) := by rfl
            have hi1 : i < (zs.map (·.1)).length := by rw [List.length_map]; omega
            have hi2 : i + 1 < (zs.map (·.1)).length := by rw [List.length_map]; omega
            obtain ⟨Ta, xa, ta, ya, ua, ea, pa, ma⟩ := hop.get (List.getElem?_eq_getElem hi1)
            obtain ⟨Tb, xb, tb, yb, ub, eb, pb, mb'⟩ := hop.get (List.getElem?_eq_getElem hi2)
            have hab : ltP (xa, ya) (xb, yb) := by
              have hs' : (zs.map (·.2)).Pairwise ltP := by rw [List.pairwise_map]; exact hs
              obtain ⟨hia, ea'⟩ := List.getElem?_eq_some_iff.mp pa
              obtain ⟨hib, eb'⟩ := List.getElem?_eq_some_iff.mp pb
              rw [← ea', ← eb']
              exact List.pairwise_iff_getElem.mp hs' i (i + 1) hia hib (by omega)
            walk_at "S2"
            refine item_at N9 (.tail _ (.tail _ (.tail _ (.head _)))) (by omega) (by omega) (x := .ref Ta) (by rw [List.getElem?_toArray, show (1 + (i : Int) - 1).toNat = i by omega, List.getElem?_eq_getElem hi1, ea]) ?_
            walk_at "S2"
            refine item_at N9 (.tail _ (.tail _ (.tail _ (.head _)))) (by omega) (by omega) (x := .ref Tb) (by rw [List.getElem?_toArray, show (1 + (i : Int)).toNat = i + 1 by omega, List.getElem?_eq_getElem hi2, eb]) ?_
            walk_at "S2"
            refine pair_ge (by show callerA.units + 3 < cLine; decide) (N9 _ (.tail _ (.tail _ (.tail _ (.tail _ (.tail _ (.tail _ (.tail _ (.tail _ (.tail _ (.tail _ ma))))))))))).1 (N9 _ (.tail _ (.tail _ (.tail _ (.tail _ (.tail _ (.tail _ (.tail _ (.tail _ (.tail _ (.tail _ mb'))))))))))).1 fun r hr => ?_
            have er : r = false := by
              rw [hr]
              refine decide_eq_false ?_
              unfold ltP at hab
              dsimp only at hab
              omega
            subst er
            walk_at "S2"
            refine CompTurn.keep Bk₁ F9 N9 (fun p hp => hp) Bk₁.off ⟨rfl, rfl⟩
          · rintro _ D C h tk mc ys nw ⟨rfl, rfl⟩ F8 N8 hc h0 hL hD off
            refine post_eval F8 N8 hc h0 hL hD off fun h₁ F9 N9 => ?_
            clear F21 N21 hr21 F8 N8
            walk_at "S2"
            rename_i lE hh22 F22 N22 _
            refine list_ne_same N22 (xs := []) (ys := []) (qs := []) (n₁ := []) (n₂ := []) (.tail _ (.head _)) (.head _) .nil (fun p hp => nomatch hp) .nil (fun p hp => nomatch hp) (by show callerA.units + 3 + 64 < cLine; decide) ?_
            have N23 : News s₁.heap s₁.heap.objs.size hh22 ((ol, W.listOf (zs.map (·.1)).toArray k) :: (s₁.heap.objs.size + 1 + 1 + 1 + 1 + 1, o5) :: (s₁.heap.objs.size + 1 + 1 + 1 + 1, oO) :: (s₁.heap.objs.size + 1 + 1 + 1, o3') :: (s₁.heap.objs.size + 1 + 1, oM) :: (s₁.heap.objs.size + 1, oT) :: (lt, W.listOf its n) :: pl) := fun p hp => N22 p (.tail _ (.tail _ hp))
            clear N22
            walk_at "S2"
            refine sorted_pairs (l := lt) (k := n) (vs := its.toList) (ps := ps) (pl := pl) F22 N23 (by rw [Array.toArray_toList]; exact .tail _ (.tail _ (.tail _ (.tail _ (.tail _ (.tail _ (.head _))))))) hPl (fun p hp => .tail _ (.tail _ (.tail _ (.tail _ (.tail _ (.tail _ (.tail _ hp))))))) hG.pairs_nodup (fun p hp => by have := hG.within p hp; omega) (by omega) (by omega) ?_
            intro D4 c4 zs4 hh24 F24 N24 hD4 hp4 hs4
            have ezs : zs4 = zs := perm_sorted (fun a b h k => (h.trans k).irrefl) (hp4.trans hp.symm) hs4 hs
            subst ezs
            clear N23 F22
            walk_at "S2"
            refine list_ne_same N24 (.head _) (.tail _ (.head _)) hop (fun p hp => .tail _ (.tail _ (.tail _ (.tail _ (.tail _ (.tail _ (.tail _ (.tail _ hp)))))))) hop (fun p hp => .tail _ (.tail _ (.tail _ (.tail _ (.tail _ (.tail _ (.tail _ (.tail _ hp)))))))) (by show callerA.units + 3 + 64 < cLine; decide) ?_
            have N25 : News s₁.heap s₁.heap.objs.size hh24 ((ol, W.listOf (zs4.map (·.1)).toArray k) :: (s₁.heap.objs.size + 1 + 1 + 1 + 1 + 1, o5) :: (s₁.heap.objs.size + 1 + 1 + 1 + 1, oO) :: (s₁.heap.objs.size + 1 + 1 + 1, o3') :: (s₁.heap.objs.size + 1 + 1, oM) :: (s₁.heap.objs.size + 1, oT) :: (lt, W.listOf its n) :: pl) := fun p hp => N24 p (.tail _ hp)
            clear N24
            walk_at "S2"
            refine exec_asg_plain (by with_unfolding_all rfl) ?_
            refine comp_eval (by with_unfolding_all rfl) (by rfl) (by decide) ?_ (by intro _; with_unfolding_all rfl)
            walk_at "S2"
            refine src_list (its := zs4.map (·.1)) (by rfl) (.plain (by decide) (by rfl)) (fun _ _ e ys nw => nw = ((ol, W.listOf (zs4.map (·.1)).toArray k) :: (s₁.heap.objs.size + 1 + 1 + 1 + 1 + 1, o5) :: (s₁.heap.objs.size + 1 + 1 + 1 + 1, oO) :: (s₁.heap.objs.size + 1 + 1 + 1, o3') :: (s₁.heap.objs.size + 1 + 1, oM) :: (s₁.heap.objs.size + 1, oT) :: (lt, W.listOf its n) :: pl) ∧ IntsAre ys ((zs4.map (·.2.1)).take e) ∧ ys.length = e) (by rw [List.length_map]; omega) F24 N25 ⟨_, (N25 (ol, _) (.head _)).1, rfl, _, rfl⟩
              (fun C2 _ => ⟨rfl, .nil, rfl⟩) (fun _ _ _ _ _ h => Nat.le_of_eq h.2.2) (fun _ _ e ys2 nw2 h hJ _ N => by rw [hJ.1] at N; exact ⟨_, (N (ol, _) (.head _)).1, rfl, _, rfl⟩) ?_ ?_
            · rintro I2 _ C2 D2 e v ys2 nw2 h2 tk2 io2 mc2 oC2 ⟨rfl, hy2, hle2⟩ hv Bk2 E2
              obtain ⟨T, x, tx, y, ty, rfl, hpi, hT⟩ := hop.get hv
              refine asg_pair (by rfl) Bk2 ⟨_, (Bk2.N (T, tup2 x tx y ty) (.tail _ (.tail _ (.tail _ (.tail _ (.tail _ (.tail _ (.tail _ (.tail _ (.tail _ (.tail _ hT))))))))))).1, rfl, _, rfl⟩ (by rfl) (by rfl) (by rfl) fun h₁ tk₁ oC₁ Bk₁ => ?_
              refine wpAny_tests_nil ?_
              simp only [if_true]
              have F9 := Bk₁.F
              have N9 := Bk₁.N
              have hC9 := Bk₁.c
              have hx2 : (fun z => if z = Str.ofString "other" then some (.int y ty) else if z = Str.ofString "one" then some (.int x tx) else mc2 z) (Str.ofString "one") = some (.int x tx) := by rfl
              walk_at "S2"
              refine CompTurn.keep Bk₁ F9 N9 (fun p hp => hp) Bk₁.off ⟨rfl, ?_, by simp [hle2]⟩
              rw [List.getElem?_map] at hpi
              have e1 : (zs4.map (·.2.1))[e]? = some x := by
                rw [List.getElem?_map]
                cases hz : zs4[e]? with
                | none => rw [hz] at hpi; cases hpi
                | some z => rw [hz] at hpi; show some z.2.1 = some x; rw [show z.2 = (x, y) from Option.some.inj hpi]
              rw [List.take_add_one, e1]
              exact hy2.append (.cons _ _ .nil)
            · rintro _ D2 C2 h2 tk2 mc2 ys2 nw2 ⟨rfl, hy2, hle2⟩ F9 N9 hc2 h02 hL2 hD2 off2
              refine post_eval F9 N9 hc2 h02 hL2 hD2 off2 fun h₁ F10 N10 => ?_
              rw [List.length_map, List.take_of_length_le (by rw [List.length_map]; exact Nat.le_refl _)] at hy2
              rw [List.length_map] at hle2
              have nD5 : @Ne Nat (s₁.heap.objs.size + 1 + 1 + 1 + 1 + 1) D2 := (off2 _ (.tail _ (.head _))).2
              clear F24 N25 F9 N9
              walk_at "S2"
              rename_i hh26 oL F26 N26 dL
              refine comp_eval (by with_unfolding_all rfl) (by rfl) (by decide) ?_ (by intro _; with_unfolding_all rfl)
              walk_at "S2"
              rename_i hr27 F27 N27 _
              obtain ⟨ls, hls⟩ : ∃ ls, ls = zs4.map (·.2.1) := ⟨_, rfl⟩
              rw [← hls] at hy2
              have hlsl : ls.length = zs4.length := by rw [hls, List.length_map]
              have hls2 : ∀ (i j : Nat) (a b : Int), i ≤ j → ls[i]? = some a → ls[j]? = some b → a ≤ b := by
                intro i j a b hij ha hb
                have hs' : ls.Pairwise (· ≤ ·) := by rw [hls, List.pairwise_map]; exact hs.imp fun h => by unfold ltP at h; omega
                by_cases e : i = j
                · subst e
                  rw [ha] at hb
                  cases hb
                  exact Int.le_refl _
                · obtain ⟨hi, rfl⟩ := List.getElem?_eq_some_iff.mp ha
                  obtain ⟨hj, rfl⟩ := List.getElem?_eq_some_iff.mp hb
                  exact List.pairwise_iff_getElem.mp hs' i j hi hj (by omega)
              refine src_range (n := (N + 1).toNat) (by rfl) (.cell (by rfl) (by decide) (by decide)) (fun _ C i ys nw => ∃ o v, nw = (C + 1, o) :: ((D2, lst ys2) :: (ol, W.listOf (zs4.map (·.1)).toArray k) :: (s₁.heap.objs.size + 1 + 1 + 1 + 1 + 1, oL) :: (s₁.heap.objs.size + 1 + 1 + 1 + 1, oO) :: (s₁.heap.objs.size + 1 + 1 + 1, o3') :: (s₁.heap.objs.size + 1 + 1, oM) :: (s₁.heap.objs.size + 1, oT) :: (lt, W.listOf its n) :: pl) ∧ o.data = .cell v ∧ (∀ p ∈ ((D2, lst ys2) :: (ol, W.listOf (zs4.map (·.1)).toArray k) :: (s₁.heap.objs.size + 1 + 1 + 1 + 1 + 1, oL) :: (s₁.heap.objs.size + 1 + 1 + 1 + 1, oO) :: (s₁.heap.objs.size + 1 + 1 + 1, o3') :: (s₁.heap.objs.size + 1 + 1, oM) :: (s₁.heap.objs.size + 1, oT) :: (lt, W.listOf its n) :: pl), p.1 < C) ∧ ys = []) (by omega) F27 N27 hr27 (small_one (by decide) (by decide) (by omega) (by omega)) (by rw [rangeSize_nat]; congr 2; omega)
                (fun C hC => ⟨_, none, rfl, rfl, hC, rfl⟩) (fun _ _ _ _ _ h => by obtain ⟨_, _, _, _, _, h⟩ := h; rw [h]; exact Nat.zero_le _) ?_ ?_
              · rintro I _ C D i t ys nw h tk io mc oC ⟨oc, vc, rfl, doc', hlC, rfl⟩ hi Bk E'
                refine asg_cell Bk doc' (by rfl) (by rfl) (by rfl) (fun p hp => Nat.ne_of_lt (Nat.lt_succ_of_lt (hlC p hp))) fun hh8 oc8 Bk8 dc8 => ?_
                refine wpAny_tests_one ?_
                have hoffB := Bk8.off
                have hneB := Bk8.ne
                have F8 := Bk8.F
                have N8 := Bk8.N
                have hC8 := Bk8.c
                rw [Int.zero_add] at *
                walk_at "S2"
                have hy2l := hy2.length
                have hlss : ∀ (j : Nat) (a : Int), ls[j]? = some a → (match ls[j]? with | some a => decide (a < (i : Int)) | none => false) = decide (a < (i : Int)) := fun j a h => by rw [h]
                refine (bis_spec w D2 ys2 _ (.int (i : Int) t) (fun j => match ls[j]? with | some a => decide (a < (i : Int)) | none => false) _ (.tail _ (.tail _ (.tail _ (.tail _ (.head _))))) (by omega) ?_ ?_).use B1 F8 KX N8 T0 (by rfl) True.intro (by decide) (by decide) ?_
                · intro a b hab hb h
                  have hb' : b < ls.length := by omega
                  have ha' : a < ls.length := by omega
                  have e1 := List.getElem?_eq_getElem hb'
                  have e2 := List.getElem?_eq_getElem ha'
                  rw [hlss _ _ e1] at h
                  rw [hlss _ _ e2]
                  have := hls2 a b _ _ hab e2 e1
                  have := of_decide_eq_true h
                  exact decide_eq_true (by omega)
                · intro A s Q E h₀ L j v _ _ hv _ hQ
                  have hj : j < ls.length := by rw [← hy2l]; exact (List.getElem?_eq_some_iff.mp hv).1
                  have e1 := List.getElem?_eq_getElem hj
                  obtain ⟨tv, hv2⟩ := hy2.get _ _ e1
                  rw [hv] at hv2
                  cases hv2
                  have hq := hQ s.toks
                  rw [hlss _ _ e1] at hq
                  exact rich_lt hq
                rintro r tl9 hh28 tk28 F28 N28' ⟨j, tj, rfl, hj, hj1, hj2⟩
                have N28 : News s₁.heap s₁.heap.objs.size hh28 ((I, io) :: (C, oC) :: (D, lst []) :: (C + 1, oc8) :: ((D2, lst ys2) :: (ol, W.listOf (zs4.map (·.1)).toArray k) :: (s₁.heap.objs.size + 1 + 1 + 1 + 1 + 1, oL) :: (s₁.heap.objs.size + 1 + 1 + 1 + 1, oO) :: (s₁.heap.objs.size + 1 + 1 + 1, o3') :: (s₁.heap.objs.size + 1 + 1, oM) :: (s₁.heap.objs.size + 1, oT) :: (lt, W.listOf its n) :: pl)) := fun p hp => N28' p (List.mem_append_right _ hp)
                have hjc : (ls.filter fun a => decide (a < (i : Int))).length = j := count_below (by omega) (fun i' hi' a ha => by
                  have := hj1 i' hi'
                  rw [hlss _ _ ha] at this
                  exact of_decide_eq_true this) (fun i' hi' a ha => by
                  have := hj2 i' hi' (by rw [hy2l]; exact (List.getElem?_eq_some_iff.mp ha).1)
                  rw [hlss _ _ ha] at this
                  exact of_decide_eq_false this)
                clear N28' F8 N8
                walk_at "S2"
                refine comp_eval (by with_unfolding_all rfl) (by rfl) (by decide) ?_ (by intro _; with_unfolding_all rfl)
                walk_at "S2"
                refine src_list (its := ys2) (by rfl) (.plain (by decide) (by rfl)) (fun _ _ e ys3 nw3 => nw3 = ((I, io) :: (C, oC) :: (D, lst []) :: (C + 1, oc8) :: ((D2, lst ys2) :: (ol, W.listOf (zs4.map (·.1)).toArray k) :: (s₁.heap.objs.size + 1 + 1 + 1 + 1 + 1, oL) :: (s₁.heap.objs.size + 1 + 1 + 1 + 1, oO) :: (s₁.heap.objs.size + 1 + 1 + 1, o3') :: (s₁.heap.objs.size + 1 + 1, oM) :: (s₁.heap.objs.size + 1, oT) :: (lt, W.listOf its n) :: pl)) ∧ ys3.length = ((ls.take e).filter fun a => decide (a < (i : Int))).length ∧ ys3.length ≤ e) (by omega) F28 N28 ⟨_, (N28 (D2, _) (.tail _ (.tail _ (.tail _ (.tail _ (.head _)))))).1, rfl, _, rfl⟩
                  (fun C2 _ => ⟨rfl, by simp, Nat.zero_le _⟩) (fun _ _ _ _ _ h => h.2.2) (fun _ _ e ys3 nw3 h hJ _ N => by rw [hJ.1] at N; exact ⟨_, (N (D2, _) (.tail _ (.tail _ (.tail _ (.tail _ (.head _)))))).1, rfl, _, rfl⟩) ?_ ?_
                · rintro I2 _ C2 D3' e v ys3 nw3 h2 tk2 io2 mc2 oC2 ⟨rfl, hy3, hle3⟩ hv Bk2 E2
                  have he : e < ls.length := by rw [← hy2l]; exact (List.getElem?_eq_some_iff.mp hv).1
                  have e1 := List.getElem?_eq_getElem he
                  obtain ⟨tv, hv2⟩ := hy2.get _ _ e1
                  rw [hv] at hv2
                  cases hv2
                  generalize ls[e] = x at e1
                  refine asg_name Bk2 (by rfl) (by rfl) fun h₁ oC₁ Bk₁ => ?_
                  refine wpAny_tests_one ?_
                  have F9 := Bk₁.F
                  have N9 := Bk₁.N
                  have hC9 := Bk₁.c
                  have hx1 : (fun z => if z = Str.ofString "one" then some (.int x tv) else mc2 z) (Str.ofString "one") = some (.int x tv) := by rfl
                  have hfl : ∀ b, b = decide (x < (i : Int)) → ((ls.take (e + 1)).filter fun a => decide (a < (i : Int))).length = ((ls.take e).filter fun a => decide (a < (i : Int))).length + (if b = true then 1 else 0) := by
                    rintro b rfl
                    rw [List.take_add_one, e1, List.filter_append, List.length_append]
                    simp only [Option.toList_some, List.filter_cons, List.filter_nil]
                    split <;> simp
                  walk_at "S2"
                  · rename_i hc
                    refine CompTurn.keep Bk₁ F9 N9 (fun p hp => hp) Bk₁.off ⟨rfl, ?_, ?_⟩
                    · rw [hfl true (decide_eq_true hc).symm, ← hy3]; simp
                    · simp only [Option.toList_some, List.length_append, List.length_singleton]; omega
                  · rename_i hc
                    refine CompTurn.keep Bk₁ F9 N9 (fun p hp => hp) Bk₁.off ⟨rfl, ?_, ?_⟩
                    · rw [hfl false (decide_eq_false hc).symm, ← hy3]; simp
                    · simp only [Option.toList_none, List.append_nil]; omega
                · rintro _ D3' C2 h2 tk2 mc2 ys3 nw3 ⟨rfl, hy3, hle3⟩ F9 N9 hc2 h02 hL2 hD2' off2
                  refine post_eval F9 N9 hc2 h02 hL2 hD2' off2 fun h₁ F10 N10 => ?_
                  rw [hy2l, List.take_length] at hy3
                  walk_at "S2"
                  refine kun_lenL (k := (ys3.length : Int)) ⟨_, (N10 (D3', _) (.head _)).1, rfl, _, rfl⟩ (by simp) (by omega) ?_
                  walk_at "S2"
                  · rename_i hc
                    exact absurd (by rw [hy3, hjc]) hc
                  · refine CompTurn.keep Bk8 F10 N10 (fun p hp => .tail _ hp) Bk8.off ⟨oc8, _, rfl, dc8, hlC, rfl⟩
              · rintro _ D5 C h tk mc ys nw ⟨oc, vc, rfl, doc', hlC, rfl⟩ F8 N8 hc h0 hL hD off
                refine post_eval F8 N8 hc h0 hL hD off fun h₁ F9 N9 => ?_
                clear F27 N27 hr27 F8 N8
                walk_at "S2"
                rename_i lE2 hh30 F30 N30 _
                refine list_eq_same N30 (xs := []) (ys := []) (qs := []) (n₁ := []) (n₂ := []) (.tail _ (.head _)) (.head _) .nil (fun p hp => nomatch hp) .nil (fun p hp => nomatch hp) (by show callerA.units + 3 + 64 < cLine; decide) ?_
                exact ⟨rfl, _, _, _, _, rfl, F30, N30⟩)
end Mine
end

theorem PySem.Challenge.cw_gg0003_01_holds : PySem.Challenge.rw_gg0003_01.Holds := by
  exact Mine.X
