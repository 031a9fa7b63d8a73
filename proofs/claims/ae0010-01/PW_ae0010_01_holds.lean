import PyProof.Rows.All
import Wide.All
import OpenK.AllK
import Wide.FinOn
import PySem.Challenge.RW_ae0010_01
open PySem PySem.W PySem.Spec PySem.Calls PyProof.Rows
set_option Elab.async false
namespace Mine
set_option maxRecDepth 100000 in
set_option maxHeartbeats 8000000 in
open_top hd for PySem.Challenge.rw_ae0010_01
end Mine
namespace Mine
noncomputable abbrev LLoose : List Str := looseW hd.view_39 [Str.ofString "ByteFile"]

/-- the digits of v, the least first -/
def low (v : Nat) : List Int := if h : v = 0 then [] else ((v % 128 : Nat) : Int) :: low (v / 128)
termination_by v
decreasing_by omega

def Stop (P : Prop) : Prop := P
theorem stop_out {P : Prop} (h : Stop P) : P := h
theorem stop_in {P : Prop} (h : P) : Stop P := h

/-- a call of the text's def at f, with arguments vs, from any frame: what must be shown -/
def Con (w : World) (f : Addr) (vs : List Value) (news : List (Addr × Obj)) (room : Nat)
    (R : Heap → Addr → (Str → Option Value) → Shared → (Value → Shared → Prop) → (Value → Shared → Prop) → Prop) : Prop :=
  ∀ (mean : ExcName → Option Value) (mg mb : Str → Option Value) (dp un : Nat) (gd : Option (List Code)) (cn : Str) (cs : Scope) (a : Addr) (ccd : Value) (cl : List (Str × Addr)) (outer : List Env) (A₀ : Around) (base h₀ : Heap) (L : Addr) (m : Str → Option Value) (s : Shared) (Q E : Value → Shared → Prop),
    Below A₀ base outer h₀ → Fr h₀ L s.heap m → (hd.heap_39 w.params).In h₀ → News h₀ L s.heap news → Top hd.view_39 LLoose mean mg mb h₀ → cs.kind = .function → dp + room < recursionLimit → un + 8 * room + 100 < cLine →
    R h₀ L m s Q E →
    wpAny (model (PySem.Challenge.rw_ae0010_01).prog w) (ktrTop dp un gd cn cs L a ccd cl outer) (call (.ref f) vs) Q E s

theorem fr_see {h₀ h : Heap} {L : Addr} {m : Str → Option Value} (ps : List (Str × Value)) (F : Fr h₀ L h m) (hp : ∀ p ∈ ps, m p.1 = some p.2) : Fr h₀ L h (kstB m ps) := by
  have e : kstB m ps = m := by
    funext y
    exact kstB_eq hp fun _ => rfl
  rw [e]; exact F
theorem fr_top {h₀ h : Heap} {L : Addr} {m : Str → Option Value} {x : Str} {v : Option Value} (ps : List (Str × Value)) (F : Fr h₀ L h (fun y => if y = x then v else m y)) (hp : ∀ p ∈ ps, m p.1 = some p.2) : Fr h₀ L h (fun y => if y = x then v else kstB m ps y) := by
  have e : kstB m ps = m := by
    funext y
    exact kstB_eq hp fun _ => rfl
  rw [e]; exact F
theorem ne_of_ltAll {l : List (Addr × Obj)} {d : Addr} (h : ∀ q ∈ l, q.1 < d) : ∀ p ∈ l, p.1 ≠ d := fun p hp => Nat.ne_of_lt (h p hp)
theorem ne_of_allLt {l : List (Addr × Obj)} {d : Addr} (h : AllLt d l) : ∀ p ∈ l, p.1 ≠ d := fun p hp => Nat.ne_of_lt (kst_ltOf h p hp)
theorem lt_of_ltAll {l : List (Addr × Obj)} {d e : Addr} (h : ∀ q ∈ l, q.1 < d) (hd : d ≤ e) : ∀ q ∈ l, q.1 < e := fun p hp => Nat.lt_of_lt_of_le (h p hp) hd
end Mine
namespace Mine
theorem mark_depth (A : Around) (h : Option Value) : (A.mark h).depth = A.depth := rfl
section
variable {m : Str → Option Value} {a b c d e : Str} {x y z u v : Value}
theorem see1 (h1 : m a = some x) : ∀ p ∈ [(a, x)], m p.1 = some p.2 := List.forall_mem_cons.mpr ⟨h1, List.forall_mem_nil _⟩
theorem see2 (h1 : m a = some x) (h2 : m b = some y) : ∀ p ∈ [(a, x), (b, y)], m p.1 = some p.2 := List.forall_mem_cons.mpr ⟨h1, see1 h2⟩
theorem see3 (h1 : m a = some x) (h2 : m b = some y) (h3 : m c = some z) : ∀ p ∈ [(a, x), (b, y), (c, z)], m p.1 = some p.2 := List.forall_mem_cons.mpr ⟨h1, see2 h2 h3⟩
theorem see4 (h1 : m a = some x) (h2 : m b = some y) (h3 : m c = some z) (h4 : m d = some u) : ∀ p ∈ [(a, x), (b, y), (c, z), (d, u)], m p.1 = some p.2 := List.forall_mem_cons.mpr ⟨h1, see3 h2 h3 h4⟩
theorem see5 (h1 : m a = some x) (h2 : m b = some y) (h3 : m c = some z) (h4 : m d = some u) (h5 : m e = some v) : ∀ p ∈ [(a, x), (b, y), (c, z), (d, u), (e, v)], m p.1 = some p.2 := List.forall_mem_cons.mpr ⟨h1, see4 h2 h3 h4 h5⟩
end
section
variable {prog : Program} {w : World} {A : Around} {E : Value → Shared → Prop} {s : Shared} {h₀ : Heap} {L D : Addr} {m : Str → Option Value} {news news' : List (Addr × Obj)} {vs ws : List Value} {ns ms : List Int} {n c : Nat} {x : Value}
theorem news_two {h : Heap} {a b : Addr × Obj} {r : List (Addr × Obj)} (N : News h₀ L h (a :: b :: r)) : News h₀ L h (a :: r) := fun p hp => N p (by
  rcases List.mem_cons.mp hp with h | hp
  · rw [h]; exact .head _
  · exact .tail _ (.tail _ hp))
theorem news_three {h : Heap} {a b c : Addr × Obj} {r : List (Addr × Obj)} (N : News h₀ L h (a :: b :: c :: r)) : News h₀ L h (a :: r) := news_two (news_two N)
theorem led4 {h : Heap} {a b c d : Addr} {oa ob oc od : Obj} {r : List (Addr × Obj)} (_N : News h₀ L h ((a, oa) :: (b, ob) :: (c, oc) :: (d, od) :: r)) : ∃ a' b' c' d' : Addr, a' = a ∧ b' = b ∧ c' = c ∧ d' = d := ⟨_, _, _, _, rfl, rfl, rfl, rfl⟩
theorem led7 {h : Heap} {a b c d e f g : Addr} {oa ob oc od oe of og : Obj} {r : List (Addr × Obj)} (_N : News h₀ L h ((a, oa) :: (b, ob) :: (c, oc) :: (d, od) :: (e, oe) :: (f, of) :: (g, og) :: r)) :
    ∃ a' b' c' d' : Addr, ∃ oe' of' og' : Obj, a' = a ∧ b' = b ∧ c' = c ∧ d' = d ∧ oe' = oe ∧ of' = of ∧ og' = og := ⟨_, _, _, _, _, _, _, rfl, rfl, rfl, rfl, rfl, rfl, rfl⟩
theorem push_is (vs : List Value) (x : Value) : vs.toArray.push x = (vs ++ [x]).toArray := by simp
theorem my_append {Q : Value → Shared → Prop} (F : Fr h₀ L s.heap m) (N : News h₀ L s.heap news) (U : Upd D (listOf vs.toArray n) (listOf (vs ++ [x]).toArray (n + 1)) news news') (hsz : vs.length ≤ sizeLine)
    (h : ∀ h', Fr h₀ L h' m → News h₀ L h' news' → Q .none { s with heap := h' }) : wpAny (model prog w) A (call (.builtin "list.append") [.ref D, x]) Q E s := by
  rw [← push_is] at U
  exact append_K F N U h (by rw [List.size_toArray]; exact hsz)
theorem my_reverse {Q : Value → Shared → Prop} (F : Fr h₀ L s.heap m) (N : News h₀ L s.heap news) (U : Upd D (listOf vs.toArray n) (listOf vs.reverse.toArray n) news news') (hsz : vs.length ≤ sizeLine)
    (h : ∀ h', Fr h₀ L h' m → News h₀ L h' news' → Q .none { s with heap := h' }) : wpAny (model prog w) A (call (.builtin "list.reverse") [.ref D]) Q E s :=
  kl_reverse F N (by simp) U hsz h
theorem my_len {Q : Value → Shared → Prop} (N : News h₀ L s.heap news) (hm : (D, listOf vs.toArray c) ∈ news) (hi : IntsAre vs ns) (hfit : ns.length < 2 ^ 62)
    (h : Q (.int (ns.length : Int) (s.toks + 1)) { s with toks := s.toks + 1 + 1 }) : wpAny (model prog w) A (call (.builtin "len") [.ref D]) Q E s :=
  kst_len N hm hi.length (by omega) h
theorem my_eq {a b : Addr} {c c' : Nat} {us : List Value} {Q : Value → Shared → Prop} (N : News h₀ L s.heap news) (hm : (a, listOf vs.toArray c) ∈ news) (hm' : (b, listOf us.toArray c') ∈ news) (hi : IntsAre vs ns) (hi' : IntsAre us ms) (hu : A.units + 64 < cLine)
    (h : Q (.bool (decide (ns = ms))) s) : wpAny (model prog w) A (compareOp .Eq (.ref a) (.ref b)) Q E s :=
  eq_intsK (PySem.IsL.isList (n := c) (N _ hm).1) hi (PySem.IsL.isList (n := c') (N _ hm').1) hi' hu h
theorem my_ne {a b : Addr} {c c' : Nat} {us : List Value} {Q : Value → Shared → Prop} (N : News h₀ L s.heap news) (hm : (a, listOf vs.toArray c) ∈ news) (hm' : (b, listOf us.toArray c') ∈ news) (hi : IntsAre vs ns) (hi' : IntsAre us ms) (hu : A.units + 64 < cLine)
    (h : Q (.bool (!decide (ns = ms))) s) : wpAny (model prog w) A (compareOp .NotEq (.ref a) (.ref b)) Q E s :=
  ne_intsK (PySem.IsL.isList (n := c) (N _ hm).1) hi (PySem.IsL.isList (n := c') (N _ hm').1) hi' hu h
end

/-- a turn of a for loop: the iterator I stands as it stood; the rest is the invariant's -/
def FEnd (h₀ : Heap) (L : Addr) (J : (Str → Option Value) → List (Addr × Obj) → Prop) (own : List (Addr × Obj)) (I : Addr) (s₁ s₂ : Shared) : Prop :=
  ∃ h' tk m' nx, s₂ = { s₁ with heap := h', toks := tk } ∧ Fr h₀ L h' m' ∧ News h₀ L h' (own ++ nx) ∧ (∀ p ∈ nx, p.1 ≠ I) ∧ J m' nx
def FPost (h₀ : Heap) (L : Addr) (J : (Str → Option Value) → List (Addr × Obj) → Prop) (own : List (Addr × Obj)) (I : Addr) (s₁ : Shared) (Q : Flow → Shared → Prop) (f : Flow) (s₂ : Shared) : Prop :=
  match f with
  | .ret v => Q (.ret v) s₂
  | .brk => Q .next s₂
  | _ => FEnd h₀ L J own I s₁ s₂
theorem fend {h₀ : Heap} {L : Addr} {J : (Str → Option Value) → List (Addr × Obj) → Prop} {own : List (Addr × Obj)} {I : Addr} {s₁ : Shared} {h' : Heap} {tk : Nat} {m' : Str → Option Value} {news : List (Addr × Obj)} (nx : List (Addr × Obj))
    (F : Fr h₀ L h' m') (N : News h₀ L h' news) (hs : ∀ p ∈ own ++ nx, p ∈ news) (ha : ∀ p ∈ nx, p.1 ≠ I) (hj : J m' nx) : FEnd h₀ L J own I s₁ { s₁ with heap := h', toks := tk } :=
  ⟨h', tk, m', nx, rfl, F, fun p hp => N p (hs p hp), ha, hj⟩
section
variable {prog : Program} {w : World} {A : Around} {E : Value → Shared → Prop} {s : Shared} {env : Env} {h₀ : Heap} {x : Str} {body : List Stmt} {Q : Flow → Shared → Prop}
theorem for_range {r : Addr} {a₀ b₀ : Int} {t₀ u₀ v₀ : Tok} {n : Nat} {m₀ : Str → Option Value} {news : List (Addr × Obj)} (J : Nat → (Str → Option Value) → List (Addr × Obj) → Prop)
    (hh : A.handled = none) (hr : IsRange s.heap r a₀ b₀ 1 t₀ u₀ v₀) (hsmall : Builtin.Range.small a₀ b₀ 1 = true) (hn : Builtin.Range.rangeSize a₀ b₀ 1 = (n : Int)) (F : Fr h₀ env.locals s.heap m₀) (N : News h₀ env.locals s.heap news) (hj : J 0 m₀ news)
    (turn : ∀ (i : Nat) t m₁ news₁ h tk I oI, i < n → J i m₁ news₁ → (∀ p ∈ news₁, p.1 ≠ I) → Fr h₀ env.locals h (fun y => if y = x then some (.int (a₀ + i) t) else m₁ y) → News h₀ env.locals h ((I, oI) :: news₁) →
      wpAny (model prog w) A (execs body env) (FPost h₀ env.locals (J (i + 1)) [(I, oI)] I { s with heap := h, toks := tk } Q) E { s with heap := h, toks := tk })
    (done : ∀ m₁ nx h tk, J n m₁ nx → Fr h₀ env.locals h m₁ → News h₀ env.locals h nx → Q .next { s with heap := h, toks := tk }) :
    wpAny (model prog w) A (pyIter (.ref r)) (fun it s₂ => LoopAtV prog w A h₀ env x body Q E it s₂) E s := by
  refine wpAny_pyIter_range hr hsmall ?_
  have W : Walks prog w A s.heap.objs.size [s.heap.objs.size] [s.heap.objs.size] n (fun i v => i < n ∧ ∃ t, v = .int (a₀ + i * 1) t)
      (fun i h => IsRangeIter h s.heap.objs.size (a₀ + (i : Nat) * 1) ((n : Int) - (i : Nat)) 1) := (Walks.range hh _ a₀ 1 n).bound
  refine ⟨_, _, _, n, _, _, m₀, news, J, rfl, W, ?_, ?_, ?_, (by show IsRangeIter _ _ _ _ _; rw [hn]; simpa using Heap.get?_push_size _ rfl), F.push _, (fun p hp => ⟨Heap.get?_push_of_some _ (N p hp).1, (N p hp).2⟩), hj, ?_, ?_⟩
  · intro hm
    exact absurd F.ns.lt ((List.mem_singleton.mp hm) ▸ Nat.lt_irrefl _)
  · intro b hb
    rw [List.mem_singleton.mp hb]
    exact next_is_new F
  · intro p hp hI
    exact absurd (Heap.lt_size (N p hp).1) ((List.mem_singleton.mp hI) ▸ Nat.lt_irrefl _)
  · rintro i v m₁ news₁ s₁ own ⟨hh', tk', rfl⟩ hin ⟨_, t, rfl⟩ hJ hoff hown hget hall hst F₁ N₁
    have e1 : a₀ + (i : Int) * 1 = a₀ + (i : Int) := by omega
    rw [e1] at F₁
    have hoff' : ∀ p ∈ news₁, p.1 ≠ s.heap.objs.size := fun p hp e => hoff p hp (by rw [e]; exact .head _)
    obtain ⟨oI, hoI⟩ : ∃ oI, hh'.get? s.heap.objs.size = some oI := ⟨_, hst⟩
    have hIo := hall s.heap.objs.size (.head _) (next_is_new F) _ hoI
    have N₂ : News h₀ env.locals hh' ((s.heap.objs.size, oI) :: news₁) := fun p hp => N₁ p ((List.mem_cons.mp hp).elim (fun h => h ▸ List.mem_append_left _ hIo) fun h => List.mem_append_right _ h)
    refine wpAny_mono (turn i t m₁ news₁ hh' tk' _ _ hin hJ hoff' F₁ N₂) (fun f s₂ p => ?_) fun _ _ e => e
    have fin : FEnd h₀ env.locals (J (i + 1)) [(s.heap.objs.size, oI)] s.heap.objs.size { s with heap := hh', toks := tk' } s₂ → LoopStepU h₀ env.locals [s.heap.objs.size] own (J (i + 1)) { s with heap := hh', toks := tk' } .next s₂ := by
      rintro ⟨h', tk, m', nx, e, F', N', ha, hm⟩
      refine ⟨rfl, h', tk, m', nx, e, F', fun p hp => ?_, fun p hp hq => ha p hp (List.mem_singleton.mp hq), hm⟩
      rcases List.mem_append.mp hp with h | h
      · have h1 := hget p h
        have h3 : p.1 = s.heap.objs.size := List.mem_singleton.mp (hown p h)
        have h2 := hget _ hIo
        rw [h3] at h1
        have h4 : p = (s.heap.objs.size, oI) := Prod.ext h3 (Option.some.inj (h1.symm.trans h2))
        rw [h4]
        exact N' _ (List.mem_append_left _ (.head _))
      · exact N' p (List.mem_append_right _ h)
    cases f with
    | ret v => exact .ret p
    | brk => exact .brk p
    | next => exact .next (fin p)
    | cont => exact .cont (fin p)
  · rintro h' tk m' news' F' N' _ hJ
    exact done m' news' h' tk hJ F' N'

theorem for_list {l : Addr} {vs : List Value} {ns : List Int} {c : Nat} {m₀ : Str → Option Value} {news : List (Addr × Obj)} (J : Nat → (Str → Option Value) → List (Addr × Obj) → Prop)
    (hh : A.handled = none) (hi : IntsAre vs ns) (F : Fr h₀ env.locals s.heap m₀) (N : News h₀ env.locals s.heap ((l, listOf vs.toArray c) :: news)) (hj : J 0 m₀ news)
    (turn : ∀ (i : Nat) n t m₁ news₁ h tk I oI, ns[i]? = some n → J i m₁ news₁ → (∀ p ∈ (l, listOf vs.toArray c) :: news₁, p.1 ≠ I) → Fr h₀ env.locals h (fun y => if y = x then some (.int n t) else m₁ y) → News h₀ env.locals h ((I, oI) :: (l, listOf vs.toArray c) :: news₁) →
      wpAny (model prog w) A (execs body env) (FPost h₀ env.locals (J (i + 1)) [(I, oI), (l, listOf vs.toArray c)] I { s with heap := h, toks := tk } Q) E { s with heap := h, toks := tk })
    (done : ∀ m₁ nx h tk, J ns.length m₁ nx → Fr h₀ env.locals h m₁ → News h₀ env.locals h ((l, listOf vs.toArray c) :: nx) → Q .next { s with heap := h, toks := tk }) :
    wpAny (model prog w) A (pyIter (.ref l)) (fun it s₂ => LoopAtV prog w A h₀ env x body Q E it s₂) E s := by
  have hol : s.heap.get? l = some (listOf vs.toArray c) := (N _ (.head _)).1
  have hls : s.heap.IsList l vs.toArray := ⟨_, hol, rfl, c, rfl⟩
  have hne : l ≠ s.heap.objs.size := Nat.ne_of_lt (Heap.lt_size hol)
  refine wpAny_pyIter_list hls ?_
  have W := Walks.list (prog := prog) (w := w) hh s.heap.objs.size l hne vs.toArray
  have hlen : vs.toArray.size = ns.length := by simp [hi.length]
  rw [hlen] at W
  refine ⟨_, _, _, ns.length, _, _, m₀, (l, listOf vs.toArray c) :: news, (fun i m nx => ∃ r, nx = (l, listOf vs.toArray c) :: r ∧ J i m r), rfl, W, ?_, ?_, ?_, ⟨⟨_, Heap.get?_push_size _ rfl, rfl, rfl⟩, hls.at fun o e => Heap.get?_push_of_some _ e⟩, F.push _, (fun p hp => ⟨Heap.get?_push_of_some _ (N p hp).1, (N p hp).2⟩), ⟨_, rfl, hj⟩, ?_, ?_⟩
  · intro hm
    rcases List.mem_cons.mp hm with e | hm
    · exact absurd F.ns.lt (e ▸ Nat.lt_irrefl _)
    · exact (N _ (.head _)).2.1 ((List.mem_singleton.mp hm).symm)
  · intro b hb
    rw [List.mem_singleton.mp hb]
    exact next_is_new F
  · intro p hp hI
    exact absurd (Heap.lt_size (N p hp).1) ((List.mem_singleton.mp hI) ▸ Nat.lt_irrefl _)
  · rintro i v m₁ news₁ s₁ own ⟨hh', tk', rfl⟩ hin hP ⟨r, rfl, hJ⟩ hoff hown hget hall hst F₁ N₁
    have hoff' : ∀ p ∈ (l, listOf vs.toArray c) :: r, p.1 ≠ s.heap.objs.size := fun p hp e => hoff p hp (by rw [e]; exact .head _)
    have hlt' : i < ns.length := hin
    obtain ⟨t, hx⟩ := hi.get i ns[i] (by simp [hlt'])
    have hv : v = .int ns[i] t := by
      have hP' : vs[i]? = some v := by simpa using hP
      rw [hx] at hP'; exact (Option.some.inj hP').symm
    subst hv
    obtain ⟨oI, hoI, _⟩ := hst.1
    have hIo := hall s.heap.objs.size (.head _) (next_is_new F) _ hoI
    have hlo : hh'.get? l = some (listOf vs.toArray c) := (N₁ _ (List.mem_append_right _ (.head _))).1
    have N₂ : News h₀ env.locals hh' ((s.heap.objs.size, oI) :: (l, listOf vs.toArray c) :: r) := fun p hp => N₁ p ((List.mem_cons.mp hp).elim (fun h => h ▸ List.mem_append_left _ hIo) fun h => List.mem_append_right _ h)
    refine wpAny_mono (turn i ns[i] t m₁ r hh' tk' _ _ (by simp [hlt']) hJ hoff' F₁ N₂) (fun f s₂ p => ?_) fun _ _ e => e
    have fin : FEnd h₀ env.locals (J (i + 1)) [(s.heap.objs.size, oI), (l, listOf vs.toArray c)] s.heap.objs.size { s with heap := hh', toks := tk' } s₂ → LoopStepU h₀ env.locals [s.heap.objs.size] own (fun m nx => ∃ r, nx = (l, listOf vs.toArray c) :: r ∧ J (i + 1) m r) { s with heap := hh', toks := tk' } .next s₂ := by
      rintro ⟨h', tk, m', nx, e, F', N', ha, hm⟩
      refine ⟨rfl, h', tk, m', (l, listOf vs.toArray c) :: nx, e, F', fun p hp => ?_, fun p hp hq => ?_, nx, rfl, hm⟩
      · rcases List.mem_append.mp hp with h | h
        · have h1 := hget p h
          rcases List.mem_cons.mp (hown p h) with h3 | h3
          · rw [h3] at h1
            have h4 : p = (s.heap.objs.size, oI) := Prod.ext h3 (Option.some.inj (h1.symm.trans hoI))
            rw [h4]
            exact N' _ (List.mem_append_left _ (.head _))
          · have h3 := List.mem_singleton.mp h3
            rw [h3] at h1
            have h4 : p = (l, listOf vs.toArray c) := Prod.ext h3 (Option.some.inj (h1.symm.trans hlo))
            rw [h4]
            exact N' _ (List.mem_append_left _ (.tail _ (.head _)))
        · rcases List.mem_cons.mp h with h | h
          · rw [h]; exact N' _ (List.mem_append_left _ (.tail _ (.head _)))
          · exact N' p (List.mem_append_right _ h)
      · have hq := List.mem_singleton.mp hq
        rcases List.mem_cons.mp hp with h | h
        · rw [h] at hq; exact hne hq
        · exact ha p h hq
    cases f with
    | ret v => exact .ret p
    | brk => exact .brk p
    | next => exact .next (fin p)
    | cont => exact .cont (fin p)
  · rintro h' tk m' news' F' N' _ ⟨r, rfl, hJ⟩
    exact done m' r h' tk hJ F' N'
end

/-- as Con, of a def that catches: called from the law's own frame -/
def ConS (w : World) (f : Addr) (vs : List Value) (news : List (Addr × Obj)) (room : Nat)
    (R : Heap → Addr → (Str → Option Value) → Shared → (Value → Shared → Prop) → (Value → Shared → Prop) → Prop) : Prop :=
  ∀ (mean : ExcName → Option Value) (mg mb : Str → Option Value) (dp un : Nat) (gd : Option (List Code)) (cn : Str) (cs : Scope) (a : Addr) (ccd : Value) (cl : List (Str × Addr)) (A₀ : Around) (base h₀ : Heap) (L : Addr) (m : Str → Option Value) (s : Shared) (Q E : Value → Shared → Prop),
    Below A₀ base [] h₀ → (hd.heap_39 w.params).In base → Top hd.view_39 LLoose mean mg mb base → Fr h₀ L s.heap m → (hd.heap_39 w.params).In h₀ → News h₀ L s.heap news → Top hd.view_39 LLoose mean mg mb h₀ → cs.kind = .function → dp + room < recursionLimit → un + 8 * room + 100 < cLine →
    R h₀ L m s Q E →
    wpAny (model (PySem.Challenge.rw_ae0010_01).prog w) (ktrTop dp un gd cn cs L a ccd cl []) (call (.ref f) vs) Q E s
section
variable {prog : Program} {w : World} {A₀ A : Around} {s : Shared} {base h₀ : Heap} {L : Addr} {m : Str → Option Value} {env : Env} {news : List (Addr × Obj)} {K : Frag} {p : Program} {loose : List Str} {mean : ExcName → Option Value} {mg mb : Str → Option Value}
    {R : Result → Shared → Prop} {name qual : Str} {params : Arguments} {body : List Stmt} {scope : Scope} {dV kV doc pm cdv ct oc : Value} {an od : Option Addr} {osl : Array (Option Value)} {f : Addr} {args : Args} {binds : List (Str × Value)}
/-- a def that catches, entered from a frame env below which no other stands: the frame's slots may turn -/
theorem my_enterS (B : Below A₀ base [] h₀) (F : Fr h₀ L s.heap m) (X₀ : K.In h₀) (N : News h₀ L s.heap news) (T : Top p loose mean mg mb h₀) (hA : A.frames = some [env]) (hf : env.frame = some L) (hke : env.scope.kind = .function)
    (ho : K.lookup f = some ⟨oc, od, .func (fnOf name qual params body scope dV kV doc pm an cdv ct), osl⟩) (hcd : codeIn K cdv qual = true) (hroom : A.depth < recursionLimit)
    (hbind : BindsTo s (fnOf name qual params body scope dV kV doc pm an cdv ct) args binds) (hloc : ∀ y ∈ binds, scope.names.lookup y.1 = some .local)
    (h : ∀ g L' h₁, Fr h₀ L g m → Fr g L' h₁ (fun y => binds.reverse.lookup y) → News g L' h₁ news → Below A base [env] g → K.In g → Top p loose mean mg mb g → KtsDicts ([env].filterMap (·.frame)) g →
      wpAny (model prog w) (A.deeper (envOf qual scope L' f cdv)) (execs body (envOf qual scope L' f cdv))
        (fun fl s' => LeaveS0 ([env].filterMap (·.frame)) h₀ L m g R (match fl with | .ret v => v | _ => .none) s')
        (fun e s' => wpAny (model prog w) (A.deeper (envOf qual scope L' f cdv)) (leaving (envOf qual scope L' f cdv) e) (fun _ s'' => R (.error e) s'') (fun e' s'' => R (.error e') s'') s')
        { s with heap := h₁, toks := s.toks + binds.length })
    (hco : scope.isCoroutine = false) (hgen : scope.isGenerator = false) (hk : scope.kind = .function)
    (hcell : ∀ x ∈ scope.names, x.2 ≠ .cell) : codeAny (model prog w) A (.call (.ref f) args) R s := by
  have X := X₀.keeps F.keep
  have hfs : [env].filterMap (·.frame) = [L] := by simp [hf]
  rw [hfs] at h
  obtain ⟨FG, BG, st, _⟩ := groundX (R := R) B F N hA hf hke
  obtain ⟨oL, es, ep, hL, hLd, hLk, hLf⟩ := FG.ns
  refine codeAny_call_def (fd := fnOf name qual params body scope dV kV doc pm an cdv ct) (body := body) (binds := binds) hroom (X _ _ ho) rfl (T.nolimit.keeps F.keep) (codeRec_of X hcd) rfl hbind hcell hloc (fun h₁ hns hk₁ => ?_) hco hgen hk
  refine wpAny_mono (h _ s.heap.objs.size h₁ FG ⟨hns, fun b o e => hk₁ b o (of_hideAll _ e), Nat.le_of_eq (hideAll_size _ _)⟩
    (fun p hp => ⟨hk₁ _ _ (N p hp).1, Nat.ne_of_lt (Heap.lt_size (N p hp).1), hideAll_none _ (List.mem_map_of_mem hp)⟩) BG (X₀.keeps st) (T.keeps st)
    (fun b hb => by rw [List.mem_singleton.mp hb]; exact ⟨oL, es, ep, hL, hLd⟩)) (fun fl s' hl => ?_) fun _ _ y => y
  obtain ⟨g', L', m', news', T', F', N', k⟩ := hl
  have nL₀ : h₀.get? L = none := kts_self F
  obtain ⟨sl, hs⟩ := T'.up hL
  have hsL := F'.keep _ _ hs
  have up : ∀ b o, h₀.get? b = some o → g'.get? b = some o := fun b o e => T'.other b o (st b o e) fun hb => by
    rw [List.mem_singleton.mp hb, nL₀] at e
    cases e
  refine k ⟨⟨_, es, ep, hsL, hLd, hLk, hLf⟩, fun b o e => F'.keep b o (up b o e), F.above⟩ fun p hp => ⟨(N' p hp).1, fun q => ?_, ?_⟩
  · have z := (N' p hp).2.2
    rw [q, hs] at z
    cases z
  · cases q : h₀.get? p.1 with
    | none => rfl
    | some o =>
      have z := (N' p hp).2.2
      rw [up _ _ q] at z
      cases z
end

/-- a ByteFile's own dict: its octets at D, its place p -/
abbrev fileD (w : World) (D : Addr) (p : Int) (t1 t2 tp : Tok) : Obj :=
  dictOf [⟨PyData.keyHash w.params (Str.ofString "octets"), .str (Str.ofString "octets") t1, .ref D⟩, ⟨PyData.keyHash w.params (Str.ofString "place"), .str (Str.ofString "place") t2, .int p tp⟩] 2

section
variable {w : World} {f : Addr} {vs : List Value} {news : List (Addr × Obj)} {room : Nat} {R : Heap → Addr → (Str → Option Value) → Shared → (Value → Shared → Prop) → (Value → Shared → Prop) → Prop}
  {mean : ExcName → Option Value} {mg mb : Str → Option Value} {dp un : Nat} {gd : Option (List Code)} {cn : Str} {cs : Scope} {a : Addr} {ccd : Value} {cl : List (Str × Addr)} {outer : List Env} {A₀ : Around} {base h₀ : Heap} {L : Addr} {m : Str → Option Value} {s : Shared} {Q E : Value → Shared → Prop}
theorem con_use (C : Con w f vs news room R) (B : Below A₀ base outer h₀) (F : Fr h₀ L s.heap m) (X : (hd.heap_39 w.params).In h₀) (N : News h₀ L s.heap news) (T : Top hd.view_39 LLoose mean mg mb h₀) (hk : cs.kind = .function) (hd : dp + room < recursionLimit) (hu : un + 8 * room + 100 < cLine)
    (r : R h₀ L m s Q E) : wpAny (model (PySem.Challenge.rw_ae0010_01).prog w) (ktrTop dp un gd cn cs L a ccd cl outer) (call (.ref f) vs) Q E s :=
  C _ _ _ _ _ _ _ _ _ _ _ _ _ _ _ _ _ _ _ _ B F X N T hk hd hu r
theorem conS_use (C : ConS w f vs news room R) (B : Below A₀ base [] h₀) (XB : (hd.heap_39 w.params).In base) (TB : Top hd.view_39 LLoose mean mg mb base) (F : Fr h₀ L s.heap m) (X : (hd.heap_39 w.params).In h₀) (N : News h₀ L s.heap news) (T : Top hd.view_39 LLoose mean mg mb h₀) (hk : cs.kind = .function) (hd : dp + room < recursionLimit) (hu : un + 8 * room + 100 < cLine)
    (r : R h₀ L m s Q E) : wpAny (model (PySem.Challenge.rw_ae0010_01).prog w) (ktrTop dp un gd cn cs L a ccd cl []) (call (.ref f) vs) Q E s :=
  C _ _ _ _ _ _ _ _ _ _ _ _ _ _ _ _ _ _ _ B XB TB F X N T hk hd hu r
end
end Mine
namespace Mine
-- the bits
theorem or128 {a : Int} (h0 : 0 ≤ a) (h1 : a < 128) : Builtin.bitOr a 128 = a + 128 := by
  have h := kbt_bit a 7
  have e : (2 : Int) ^ 7 = 128 := by decide
  rw [e] at h
  rw [bitOr_and, h]
  omega
theorem and_not128 {b : Int} (h0 : 0 ≤ b) (h1 : b < 128) : Builtin.bitAnd (b + 128) (Builtin.bitNot 128) = b := by
  have h := kbt_bit (b + 128) 7
  have e : (2 : Int) ^ 7 = 128 := by decide
  rw [e] at h
  have e2 : Builtin.bitNot 128 = -129 := by decide
  have h2 : Builtin.bitOr (b + 128) (-129) = Builtin.bitOr (-129) (b + 128) := bitOr_comm _ _
  rw [e2]
  have hx : 0 ≤ b + 128 := by omega
  unfold Builtin.bitAnd at h ⊢
  have d1 : decide (0 ≤ b + 128) = true := by simp [hx]
  have d2 : decide ((0 : Int) ≤ -129) = false := by decide
  have d3 : decide ((0 : Int) ≤ 128) = true := by decide
  rw [d1, d2]
  rw [d1, d3] at h
  have e3 : (Builtin.bitNot (-129)).toNat = (128 : Int).toNat := by decide
  simp only at h ⊢
  rw [e3, h]
  omega
theorem or_low {a b : Int} (h0 : 0 ≤ b) (h1 : b < 128) : Builtin.bitOr (a * 2 ^ 7) b = a * 128 + b := by
  have e : (2 : Int) ^ 7 = 128 := by decide
  have h : Builtin.bitAnd (a * 128) b = 0 := by
    have hb : Builtin.bitAnd b 127 = b := by rw [bitAnd_m7]; omega
    have := kbt_halves (a * 128) b
    rw [this]
    have := kbt_halves (a * 128 / 2) (b / 2)
    rw [this]
    have := kbt_halves (a * 128 / 2 / 2) (b / 2 / 2)
    rw [this]
    have := kbt_halves (a * 128 / 2 / 2 / 2) (b / 2 / 2 / 2)
    rw [this]
    have := kbt_halves (a * 128 / 2 / 2 / 2 / 2) (b / 2 / 2 / 2 / 2)
    rw [this]
    have := kbt_halves (a * 128 / 2 / 2 / 2 / 2 / 2) (b / 2 / 2 / 2 / 2 / 2)
    rw [this]
    have := kbt_halves (a * 128 / 2 / 2 / 2 / 2 / 2 / 2) (b / 2 / 2 / 2 / 2 / 2 / 2)
    rw [this]
    have z : b / 2 / 2 / 2 / 2 / 2 / 2 / 2 = 0 := by omega
    rw [z]
    have z2 : ∀ x : Int, Builtin.bitAnd x 0 = 0 := fun x => by
      have := bitAnd_range x (y := 0) (by omega)
      omega
    rw [z2]
    rw [if_neg (by omega), if_neg (by omega), if_neg (by omega), if_neg (by omega), if_neg (by omega), if_neg (by omega), if_neg (by omega)]
    rfl
  rw [e, bitOr_and, h]
  omega
-- the digits
theorem low_zero : low 0 = [] := by rw [low]; simp
theorem low_pos {v : Nat} (h : v ≠ 0) : low v = ((v % 128 : Nat) : Int) :: low (v / 128) := by rw [low]; simp [h]
theorem low_bnd : ∀ (v : Nat), ∀ d ∈ low v, 0 ≤ d ∧ d < 128 := by
  intro v
  induction v using Nat.strongRecOn with
  | _ v ih =>
    by_cases h : v = 0
    · subst h; rw [low_zero]; intro d hd; exact nomatch hd
    · rw [low_pos h]
      intro d hd
      rcases List.mem_cons.mp hd with rfl | hd
      · omega
      · exact ih (v / 128) (by omega) d hd
theorem low_len : ∀ (k v : Nat), v < 128 ^ k → (low v).length ≤ k := by
  intro k
  induction k with
  | zero => intro v h; have : v = 0 := by simpa using h
            subst this; rw [low_zero]; exact Nat.le_refl _
  | succ k ih =>
    intro v h
    by_cases hv : v = 0
    · subst hv; rw [low_zero]; exact Nat.zero_le _
    · rw [low_pos hv, List.length_cons]
      have := ih (v / 128) (by rw [Nat.pow_succ] at h; exact Nat.div_lt_of_lt_mul (by omega))
      omega
theorem low_len9 {v : Nat} (h : (v : Int) < 2 ^ 63) : (low v).length ≤ 9 := low_len 9 v (by
  have e : (128 : Nat) ^ 9 = 2 ^ 63 := by decide
  omega)
/-- the octets of v -/
def enc (v : Nat) : List Int := (low (v / 128)).reverse.map (· + 128) ++ [((v % 128 : Nat) : Int)]
/-- the first i of them with 128 added -/
def fl (i : Nat) (ds : List Int) : List Int := (ds.take i).map (· + 128) ++ ds.drop i
theorem fl_len (i : Nat) (ds : List Int) : (fl i ds).length = ds.length := by
  unfold fl; simp; omega
theorem fl_zero (ds : List Int) : fl 0 ds = ds := by simp [fl]
theorem fl_at {i : Nat} {ds : List Int} (h : i < ds.length) : (fl i ds).getD i 0 = ds[i] := by
  unfold fl
  rw [List.getD_eq_getElem?_getD, List.getElem?_append_right (by simp; omega)]
  simp [Nat.min_eq_left (Nat.le_of_lt h), h]
theorem fl_set {i : Nat} {ds : List Int} (h : i < ds.length) : (fl i ds).set i (ds[i] + 128) = fl (i + 1) ds := by
  unfold fl
  have e : ((ds.take i).map (· + 128)).length = i := by simp; omega
  rw [List.set_append_right _ _ (by omega), e, Nat.sub_self, List.drop_eq_getElem_cons h, List.set_cons_zero, ← List.take_append_getElem h, List.map_append, List.append_assoc]
  rfl
theorem enc_is {v : Nat} (h : v ≠ 0) : fl ((low v).length - 1) (low v).reverse = enc v := by
  rw [low_pos h, List.length_cons, Nat.add_sub_cancel, List.reverse_cons]
  unfold fl enc
  rw [List.take_left' (by simp), List.drop_left' (by simp)]
theorem enc_len {v : Nat} (h : v ≠ 0) : (enc v).length = (low v).length := by
  rw [← enc_is h, fl_len, List.length_reverse]
theorem enc_len9 {v : Nat} (h : (v : Int) < 2 ^ 63) : (enc v).length ≤ 9 ∧ 1 ≤ (enc v).length := by
  refine ⟨?_, by unfold enc; simp⟩
  by_cases hv : v = 0
  · subst hv; unfold enc; simp [low_zero]
  · rw [enc_len hv]; exact low_len9 h

-- back again
def val (ds : List Int) : Int := ds.foldl (fun a b => a * 128 + b) 0
theorem val_snoc (ds : List Int) (d : Int) : val (ds ++ [d]) = val ds * 128 + d := by simp [val]
theorem val_low : ∀ v : Nat, val (low v).reverse = (v : Int) := by
  intro v
  induction v using Nat.strongRecOn with
  | _ v ih =>
    by_cases h : v = 0
    · subst h; rw [low_zero]; rfl
    · rw [low_pos h, List.reverse_cons, val_snoc, ih (v / 128) (by omega)]
      omega
def top (v : Nat) : List Int := (low (v / 128)).reverse
def dl (i : Nat) (v : Nat) : List Int := (top v).take i ++ ((top v).drop i).map (· + 128) ++ [((v % 128 : Nat) : Int)]
theorem dl_zero (v : Nat) : dl 0 v = enc v := by simp [dl, enc, top]
theorem dl_end (v : Nat) : dl (top v).length v = top v ++ [((v % 128 : Nat) : Int)] := by simp [dl]
theorem dl_len (i v : Nat) : (dl i v).length = (top v).length + 1 := by simp [dl]; omega
theorem enc_top (v : Nat) : (enc v).length = (top v).length + 1 := by rw [← dl_zero, dl_len]
theorem dl_at {i v : Nat} (h : i < (top v).length) : (dl i v).getD i 0 = (top v)[i] + 128 := by
  unfold dl
  have e : ((top v).take i).length = i := by simp; omega
  rw [List.append_assoc, List.getD_eq_getElem?_getD, List.getElem?_append_right (by omega), e, Nat.sub_self, List.drop_eq_getElem_cons h, List.map_cons, List.cons_append]
  rfl
theorem dl_set {i v : Nat} (h : i < (top v).length) : (dl i v).set i ((top v)[i]) = dl (i + 1) v := by
  unfold dl
  have e : ((top v).take i).length = i := by simp; omega
  rw [List.append_assoc, List.set_append_right _ _ (by omega), e, Nat.sub_self, List.drop_eq_getElem_cons h, List.map_cons, List.cons_append, List.set_cons_zero, ← List.take_append_getElem h, List.append_assoc, List.append_assoc]
  rfl
theorem top_bnd (v : Nat) : ∀ d ∈ top v, 0 ≤ d ∧ d < 128 := fun d hd => low_bnd _ d (List.mem_reverse.mp hd)
theorem val_all (v : Nat) : val (top v ++ [((v % 128 : Nat) : Int)]) = (v : Int) := by
  rw [val_snoc]
  have := val_low (v / 128)
  unfold top
  rw [this]
  omega
theorem val_from : ∀ (ds : List Int) (a : Int) (k : Nat), 0 ≤ a → a < 128 ^ k → (∀ d ∈ ds, 0 ≤ d ∧ d < 128) → 0 ≤ ds.foldl (fun a b => a * 128 + b) a ∧ ds.foldl (fun a b => a * 128 + b) a < 128 ^ (k + ds.length) := by
  intro ds
  induction ds with
  | nil => intro a k h0 h1 _; exact ⟨h0, h1⟩
  | cons d r ih =>
    intro a k h0 h1 h
    have h2 := h d (.head _)
    have e := ih (a * 128 + d) (k + 1) (by omega) (by rw [Int.pow_succ]; omega) fun x hx => h x (.tail _ hx)
    have e2 : k + 1 + r.length = k + (d :: r).length := by rw [List.length_cons]; omega
    rw [e2] at e
    exact e
theorem val_bnd {ds : List Int} {n : Nat} (h : ∀ d ∈ ds, 0 ≤ d ∧ d < 128) (hn : ds.length ≤ n) (h9 : n ≤ 9) : 0 ≤ val ds ∧ val ds < 2 ^ 63 := by
  have := val_from ds 0 0 (by omega) (by decide) h
  refine ⟨this.1, Int.lt_of_lt_of_le this.2 ?_⟩
  have e : (128 : Int) ^ (0 + ds.length) ≤ 128 ^ 9 := by
    exact_mod_cast Nat.pow_le_pow_right (by decide : 0 < 128) (show 0 + ds.length ≤ 9 by omega)
  exact Int.le_trans e (by decide)

theorem slice_is (os : List Int) (p k : Nat) : List.take (min ((p : Int) + (k : Int)).toNat os.length - (p : Int).toNat) (List.drop (p : Int).toNat os) = (os.drop p).take k := by
  have e1 : ((p : Int) + (k : Int)).toNat = p + k := by omega
  have e2 : (p : Int).toNat = p := by omega
  rw [e1, e2]
  by_cases h : p + k ≤ os.length
  · rw [Nat.min_eq_left h, Nat.add_sub_cancel_left]
  · rw [Nat.min_eq_right (by omega), List.take_of_length_le (by rw [List.length_drop]; omega), List.take_of_length_le (by rw [List.length_drop]; omega)]

-- reading a number: the value and the number of octets read; none where the octets end first
def rd : Int → List Int → Option (Int × Nat)
  | _, [] => none
  | a, b :: r => if b < 128 then some (a * 128 + b % 128, 1) else (rd (a * 128 + b % 128) r).map fun y => (y.1, y.2 + 1)
def rdAt (a : Int) (q : Nat) (os : List Int) : Option (Int × Nat) := (rd a (os.drop q)).map fun y => (y.1, y.2 + q)
theorem rdAt_end {a : Int} {q : Nat} {os : List Int} (h : os.length ≤ q) : rdAt a q os = none := by
  unfold rdAt
  rw [List.drop_eq_nil_of_le h]
  rfl
theorem rdAt_stop {a b : Int} {q : Nat} {os : List Int} (h : os[q]? = some b) (hb : b < 128) : rdAt a q os = some (a * 128 + b % 128, q + 1) := by
  unfold rdAt
  obtain ⟨hq, e⟩ := List.getElem?_eq_some_iff.mp h
  rw [List.drop_eq_getElem_cons hq, e, rd, if_pos hb]
  simp [Nat.add_comm]
theorem rdAt_on {a b : Int} {q : Nat} {os : List Int} (h : os[q]? = some b) (hb : ¬ b < 128) : rdAt a q os = rdAt (a * 128 + b % 128) (q + 1) os := by
  unfold rdAt
  obtain ⟨hq, e⟩ := List.getElem?_eq_some_iff.mp h
  rw [List.drop_eq_getElem_cons hq, e, rd, if_neg hb]
  cases rd (a * 128 + b % 128) (os.drop (q + 1)) with
  | none => rfl
  | some y => simp; omega
theorem rd_flags : ∀ (ds : List Int) (a : Int) (r : List Int), (∀ d ∈ ds, 0 ≤ d ∧ d < 128) → rd a (ds.map (· + 128) ++ r) = (rd (ds.foldl (fun a b => a * 128 + b) a) r).map fun y => (y.1, y.2 + ds.length) := by
  intro ds
  induction ds with
  | nil => intro a r _; simp
  | cons d t ih =>
    intro a r h
    have hd := h d (.head _)
    rw [List.map_cons, List.cons_append, rd, if_neg (by omega), ih _ _ fun x hx => h x (.tail _ hx)]
    have e : a * 128 + (d + 128) % 128 = a * 128 + d := by omega
    rw [e, List.foldl_cons]
    cases rd (t.foldl (fun a b => a * 128 + b) (a * 128 + d)) r with
    | none => rfl
    | some y => simp; omega
theorem rd_enc (v : Nat) (r : List Int) : rd 0 (enc v ++ r) = some ((v : Int), (enc v).length) := by
  have e : enc v = (top v).map (· + 128) ++ [((v % 128 : Nat) : Int)] := rfl
  have hv := val_all v
  rw [val_snoc] at hv
  rw [enc_top v, e, List.append_assoc, rd_flags _ _ _ (top_bnd v), List.singleton_append, rd, if_pos (by omega)]
  have e2 : ((v % 128 : Nat) : Int) % 128 = ((v % 128 : Nat) : Int) := by omega
  rw [e2]
  show some ((top v).foldl (fun a b => a * 128 + b) 0 * 128 + ((v % 128 : Nat) : Int), 1 + (top v).length) = _
  unfold val at hv
  rw [hv, Nat.add_comm]
theorem rd_none : ∀ (ds : List Int) (a : Int), (∀ d ∈ ds, 128 ≤ d) → rd a ds = none := by
  intro ds
  induction ds with
  | nil => intro a _; rfl
  | cons d t ih =>
    intro a h
    have hd := h d (.head _)
    rw [rd, if_neg (by omega), ih _ fun x hx => h x (.tail _ hx)]
    rfl
-- a row of numbers
def encs (ns : List Nat) : List Int := ns.flatMap enc
def pos (ns : List Nat) (k : Nat) : Nat := (encs (ns.take k)).length
theorem pos_zero (ns : List Nat) : pos ns 0 = 0 := rfl
theorem encs_split (ns : List Nat) (k : Nat) : encs ns = encs (ns.take k) ++ encs (ns.drop k) := by
  unfold encs
  rw [← List.flatMap_append, List.take_append_drop]
theorem pos_drop (ns : List Nat) (k : Nat) (part : List Int) : (encs ns ++ part).drop (pos ns k) = encs (ns.drop k) ++ part := by
  rw [encs_split ns k, List.append_assoc]
  exact List.drop_left' rfl
theorem pos_succ {ns : List Nat} {k : Nat} (h : k < ns.length) : pos ns (k + 1) = pos ns k + (enc ns[k]).length := by
  unfold pos encs
  rw [← List.take_append_getElem h, List.flatMap_append, List.length_append]
  simp
theorem pos_le (ns : List Nat) (k : Nat) : pos ns k ≤ (encs ns).length := by
  rw [encs_split ns k, List.length_append]
  exact Nat.le_add_right _ _
theorem pos_ge : ∀ (ns : List Nat), ns.length ≤ (encs ns).length := by
  intro ns
  induction ns with
  | nil => exact Nat.zero_le _
  | cons n t ih =>
    have e : encs (n :: t) = enc n ++ encs t := by simp [encs]
    rw [e, List.length_append, List.length_cons, enc_top]
    omega
theorem pos_all (ns : List Nat) : pos ns ns.length = (encs ns).length := by unfold pos; rw [List.take_length]
theorem rdAt_some {ns : List Nat} {k : Nat} (h : k < ns.length) (part : List Int) : rdAt 0 (pos ns k) (encs ns ++ part) = some ((ns[k] : Int), pos ns (k + 1)) := by
  unfold rdAt
  have e : encs (ns.drop k) = enc ns[k] ++ encs (ns.drop (k + 1)) := by
    unfold encs
    rw [List.drop_eq_getElem_cons h, List.flatMap_cons]
  rw [pos_drop, e, List.append_assoc, rd_enc, pos_succ h]
  simp [Nat.add_comm]
theorem rdAt_none {ns : List Nat} {part : List Int} (hp : ∀ d ∈ part, 128 ≤ d) : rdAt 0 (pos ns ns.length) (encs ns ++ part) = none := by
  unfold rdAt
  rw [pos_drop, List.drop_length]
  have e : encs [] ++ part = part := rfl
  rw [e, rd_none _ _ hp]
  rfl

theorem byte_at {os : List Int} {q : Nat} (h : decide (List.take 1 (List.drop q os) = []) = false) : ∃ b, os[q]? = some b ∧ List.take 1 (List.drop q os) = [b] := by
  by_cases hq : q < os.length
  · exact ⟨os[q], by simp [hq], by rw [List.drop_eq_getElem_cons hq]; rfl⟩
  · rw [List.drop_eq_nil_of_le (by omega)] at h
    simp at h
theorem byte_none {os : List Int} {q : Nat} (h : decide (List.take 1 (List.drop q os) = []) = true) : os.length ≤ q := by
  by_cases hq : q < os.length
  · rw [List.drop_eq_getElem_cons hq] at h
    have h2 := of_decide_eq_true h
    cases h2
  · omega

theorem byte_val {os : List Int} {q : Nat} {b dl : Int} (h : List.take 1 (List.drop q os) = [b]) : Builtin.bitOr (dl * 2 ^ Int.toNat 7) (Builtin.bitAnd ((List.take 1 (List.drop q os)).getD (Int.toNat 0) 0) 127) = dl * 128 + b % 128 := by
  rw [h, bitAnd_m7]
  exact or_low (a := dl) (b := b % 128) (by omega) (by omega)
theorem rd_last {ns : List Nat} {part os : List Int} {i : Nat} {v : Int} {j : Nat} (hos : encs ns ++ part = os) (hpart : ∀ b ∈ part, 128 ≤ b) (hi : i ≤ ns.length) (h : rdAt 0 (pos ns i) os = some (v, j)) : ∃ hi : i < ns.length, v = ((ns[i] : Nat) : Int) ∧ j = pos ns (i + 1) := by
  by_cases hlt : i < ns.length
  · rw [← hos, rdAt_some hlt] at h
    cases h
    exact ⟨hlt, rfl, rfl⟩
  · have e : i = ns.length := by omega
    rw [← hos, e, rdAt_none hpart] at h
    cases h
theorem rd_stops {ns : List Nat} {part os : List Int} {i : Nat} (hos : encs ns ++ part = os) (hi : i ≤ ns.length) (h : rdAt 0 (pos ns i) os = none) : i = ns.length := by
  by_cases hlt : i < ns.length
  · rw [← hos, rdAt_some hlt] at h
    cases h
  · omega
theorem grow {dl b : Int} {q : Nat} (h0 : 0 ≤ dl) (h : dl.natAbs < 2 ^ (7 * q)) : 0 ≤ dl * 128 + b % 128 ∧ (dl * 128 + b % 128).natAbs < 2 ^ (7 * (q + 1)) := by
  have e : 2 ^ (7 * (q + 1)) = 2 ^ (7 * q) * 128 := by rw [Nat.mul_add, Nat.pow_add]
  rw [e]
  generalize 2 ^ (7 * q) = n at h ⊢
  omega
theorem place_one {os : List Int} {q : Nat} {b : Int} (h : List.take 1 (List.drop q os) = [b]) : q + (List.take 1 (List.drop q os)).length = q + 1 := by rw [h]; rfl

-- the law's own numbers
def nums (ss : List Int) : List Nat := (ss.take 5).map fun k => (k.fmod (128 ^ Int.toNat 9)).toNat
theorem m9 : (128 : Int) ^ Int.toNat 9 = 2 ^ 63 := by decide
theorem nums_is (ss : List Int) : List.map (fun k => Int.fmod k (128 ^ Int.toNat 9)) (List.take 5 ss) = (nums ss).map Int.ofNat := by
  unfold nums
  rw [List.map_map]
  refine List.map_congr_left fun k _ => ?_
  have : 0 ≤ k.fmod (128 ^ Int.toNat 9) := Int.fmod_nonneg_of_pos _ (by decide)
  exact (Int.toNat_of_nonneg this).symm
theorem nums_lt (ss : List Int) : ∀ n ∈ nums ss, (n : Int) < 2 ^ 63 := by
  intro n hn
  obtain ⟨k, _, rfl⟩ := List.mem_map.mp hn
  have h0 : 0 ≤ k.fmod (128 ^ Int.toNat 9) := Int.fmod_nonneg_of_pos _ (by decide)
  have h1 : k.fmod (128 ^ Int.toNat 9) < 128 ^ Int.toNat 9 := Int.fmod_lt_of_pos _ (by decide)
  rw [Int.toNat_of_nonneg h0, ← m9]
  exact h1
theorem nums_len (ss : List Int) : (nums ss).length ≤ 5 := by
  unfold nums
  rw [List.length_map, List.length_take]
  omega
theorem encs_len {ns : List Nat} (h : ∀ n ∈ ns, (n : Int) < 2 ^ 63) : (encs ns).length ≤ 9 * ns.length := by
  induction ns with
  | nil => exact Nat.le_refl _
  | cons n t ih =>
    have e : encs (n :: t) = enc n ++ encs t := by simp [encs]
    have h1 := (enc_len9 (h n (.head _))).1
    have h2 := ih fun x hx => h x (.tail _ hx)
    rw [e, List.length_append, List.length_cons]
    omega
def endsOf (ns : List Nat) (k : Nat) : List Int := (List.range k).map fun i => ((pos ns (i + 1) : Nat) : Int)
theorem endsOf_zero (ns : List Nat) : endsOf ns 0 = [] := rfl
theorem endsOf_succ (ns : List Nat) (k : Nat) : endsOf ns (k + 1) = endsOf ns k ++ [((pos ns (k + 1) : Nat) : Int)] := by
  unfold endsOf
  rw [List.range_succ, List.map_append]
  rfl
theorem endsOf_len (ns : List Nat) (k : Nat) : (endsOf ns k).length = k := by simp [endsOf]
theorem encs_succ {ns : List Nat} {k : Nat} (h : k < ns.length) : encs (ns.take (k + 1)) = encs (ns.take k) ++ enc ns[k] := by
  unfold encs
  rw [← List.take_append_getElem h, List.flatMap_append]
  simp
theorem nm1 {ys : List Value} {f : Int → Int} {ss : List Int} (_h : IntsAre ys (List.map f (List.take 5 ss))) : ∃ z, z = ss := ⟨_, rfl⟩
end Mine
namespace Mine
theorem nmL {h : Heap} {a : Addr} {its : Array Value} (_h : h.IsList a its) : ∃ z, z = a := ⟨_, rfl⟩
theorem nmS {s : Shared} (_h : s.gens = #[]) : ∃ z, z = s := ⟨_, rfl⟩

section
variable {prog : Program} {w : World} {A : Around} {E : Value → Shared → Prop} {s : Shared} {h₀ : Heap} {L a b : Addr} {m : Str → Option Value} {news : List (Addr × Obj)} {vs ws : List Value} {ns ms : List Int} {c d : Nat} {Q : Value → Shared → Prop}
theorem my_add (F : Fr h₀ L s.heap m) (N : News h₀ L s.heap news) (ha : (a, listOf vs.toArray c) ∈ news) (hb : (b, listOf ws.toArray d) ∈ news) (hi : IntsAre vs ns) (hj : IntsAre ws ms) (hz : ns.length + ms.length ≤ 1000000)
    (h : ∀ D us h', Fr h₀ L h' m → News h₀ L h' ((D, listOf (List.toArray us) 0) :: news) → (∀ p ∈ news, p.1 < D) → IntsAre us (ns ++ ms) → Q (.ref D) { s with heap := h' }) : wpAny (model prog w) A (binaryOp .Add (.ref a) (.ref b)) Q E s :=
  kmk_add_ints F N (PySem.IsL.isList (n := c) (N _ ha).1) (PySem.IsL.isList (n := d) (N _ hb).1) hi hj h (by rw [sizeLine_eq]; omega)
end
theorem encs_take_len {ss : List Int} (k : Nat) : (encs ((nums ss).take k)).length ≤ 45 := by
  have h := encs_len (ns := (nums ss).take k) fun n hn => nums_lt ss n (List.mem_of_mem_take hn)
  have h5 := nums_len ss
  rw [List.length_take] at h
  omega

theorem led1 {h₀ : Heap} {L : Addr} {h : Heap} {a : Addr} {oa : Obj} {r : List (Addr × Obj)} (_N : News h₀ L h ((a, oa) :: r)) : ∃ z, z = a := ⟨_, rfl⟩
theorem pos_is {ns : List Nat} {k : Nat} (h : k < ns.length) : (((encs (ns.take k)).length + (enc ns[k]).length : Nat) : Int) = ((pos ns (k + 1) : Nat) : Int) := by
  unfold pos
  rw [encs_succ h, List.length_append]

theorem led3 {h₀ : Heap} {L : Addr} {h : Heap} {a b c : Addr} {oa ob oc : Obj} {r : List (Addr × Obj)} (_N : News h₀ L h ((a, oa) :: (b, ob) :: (c, oc) :: r)) : ∃ a' b' c' : Addr, a' = a ∧ b' = b ∧ c' = c := ⟨_, _, _, rfl, rfl, rfl⟩

theorem nums_getD {ns : List Nat} {i : Nat} (h : i < ns.length) : (ns.map Int.ofNat).getD ((0 : Int) + (i : Int)).toNat 0 = ((ns[i] : Nat) : Int) := by
  have e : ((0 : Int) + (i : Int)).toNat = i := by omega
  rw [e, List.getD_eq_getElem?_getD, List.getElem?_map, List.getElem?_eq_getElem h]
  rfl
theorem ends_getD {ns : List Nat} {i n : Nat} (h : i < n) : (endsOf ns n).getD ((0 : Int) + (i : Int)).toNat 0 = ((pos ns (i + 1) : Nat) : Int) := by
  have e : ((0 : Int) + (i : Int)).toNat = i := by omega
  unfold endsOf
  rw [e, List.getD_eq_getElem?_getD, List.getElem?_map, List.getElem?_range h]
  rfl

section
variable {prog : Program} {w : World} {A : Around} {E : Value → Shared → Prop} {s : Shared} {env : Env} {h₀ : Heap} {target : PySem.Expr} {body : List Stmt} {Q : Flow → Shared → Prop}
/-- a for over a list of the call's own, whatever its target; no early leave -/
theorem for_listT {l : Addr} {vs : List Value} {ns : List Int} {c : Nat} {m₀ : Str → Option Value} {news : List (Addr × Obj)} (J : Nat → (Str → Option Value) → List (Addr × Obj) → Prop)
    (hh : A.handled = none) (hi : IntsAre vs ns) (F : Fr h₀ env.locals s.heap m₀) (N : News h₀ env.locals s.heap ((l, listOf vs.toArray c) :: news)) (hj : J 0 m₀ news)
    (turn : ∀ (i : Nat) n t m₁ news₁ (s₁ : Shared) I oI, ns[i]? = some n → J i m₁ news₁ → (∀ p ∈ (l, listOf vs.toArray c) :: news₁, p.1 ≠ I) → Fr h₀ env.locals s₁.heap m₁ → News h₀ env.locals s₁.heap ((I, oI) :: (l, listOf vs.toArray c) :: news₁) →
      wpAny (model prog w) A (assign target env (.int n t)) (fun _ s₃ => wpAny (model prog w) A (execs body env) (fun f s₂ => f = .next ∧ FEnd h₀ env.locals (J (i + 1)) [(I, oI), (l, listOf vs.toArray c)] I s₁ s₂) E s₃) E s₁)
    (done : ∀ m₁ nx h tk, J ns.length m₁ nx → Fr h₀ env.locals h m₁ → News h₀ env.locals h ((l, listOf vs.toArray c) :: nx) → Q .next { s with heap := h, toks := tk }) :
    wpAny (model prog w) A (pyIter (.ref l)) (fun it s₂ => LoopAtT prog w A h₀ env target body Q E it s₂) E s := by
  have hol : s.heap.get? l = some (listOf vs.toArray c) := (N _ (.head _)).1
  have hls : s.heap.IsList l vs.toArray := ⟨_, hol, rfl, c, rfl⟩
  have hne : l ≠ s.heap.objs.size := Nat.ne_of_lt (Heap.lt_size hol)
  refine wpAny_pyIter_list hls ?_
  have W := Walks.list (prog := prog) (w := w) hh s.heap.objs.size l hne vs.toArray
  have hlen : vs.toArray.size = ns.length := by simp [hi.length]
  rw [hlen] at W
  refine ⟨_, _, _, ns.length, _, _, m₀, (l, listOf vs.toArray c) :: news, (fun i m nx => ∃ r, nx = (l, listOf vs.toArray c) :: r ∧ J i m r), rfl, W, ?_, ?_, ?_, ⟨⟨_, Heap.get?_push_size _ rfl, rfl, rfl⟩, hls.at fun o e => Heap.get?_push_of_some _ e⟩, F.push _, (fun p hp => ⟨Heap.get?_push_of_some _ (N p hp).1, (N p hp).2⟩), (fun i s' v Q' st hQ' => letGo_listiter st.1 hQ'), ⟨_, rfl, hj⟩, ?_, ?_⟩
  · intro hm
    rcases List.mem_cons.mp hm with e | hm
    · exact absurd F.ns.lt (e ▸ Nat.lt_irrefl _)
    · exact (N _ (.head _)).2.1 ((List.mem_singleton.mp hm).symm)
  · intro b hb
    rw [List.mem_singleton.mp hb]
    exact next_is_new F
  · intro p hp hI
    exact absurd (Heap.lt_size (N p hp).1) ((List.mem_singleton.mp hI) ▸ Nat.lt_irrefl _)
  · rintro i v m₁ news₁ s₁ own hin hP ⟨r, rfl, hJ⟩ hoff hown hget hall hst F₁ N₁
    have hoff' : ∀ p ∈ (l, listOf vs.toArray c) :: r, p.1 ≠ s.heap.objs.size := fun p hp e => hoff p hp (by rw [e]; exact .head _)
    have hlt' : i < ns.length := hin
    obtain ⟨t, hx⟩ := hi.get i ns[i] (by simp [hlt'])
    have hv : v = .int ns[i] t := by
      have hP' : vs[i]? = some v := by simpa using hP
      rw [hx] at hP'; exact (Option.some.inj hP').symm
    subst hv
    obtain ⟨oI, hoI, _⟩ := hst.1
    have hIo := hall s.heap.objs.size (.head _) (next_is_new F) _ hoI
    have hlo : s₁.heap.get? l = some (listOf vs.toArray c) := (N₁ _ (List.mem_append_right _ (.head _))).1
    have N₂ : News h₀ env.locals s₁.heap ((s.heap.objs.size, oI) :: (l, listOf vs.toArray c) :: r) := fun p hp => N₁ p ((List.mem_cons.mp hp).elim (fun h => h ▸ List.mem_append_left _ hIo) fun h => List.mem_append_right _ h)
    refine wpAny_mono (turn i ns[i] t m₁ r s₁ _ _ (by simp [hlt']) hJ hoff' F₁ N₂) (fun _ s₃ p => wpAny_mono p (fun f s₂ p => ?_) fun _ _ e => e) fun _ _ e => e
    obtain ⟨rfl, h', tk, m', nx, e, F', N', ha, hm⟩ := p
    refine ⟨rfl, h', tk, m', (l, listOf vs.toArray c) :: nx, e, F', fun p hp => ?_, fun p hp hq => ?_, nx, rfl, hm⟩
    · rcases List.mem_append.mp hp with h | h
      · have h1 := hget p h
        rcases List.mem_cons.mp (hown p h) with h3 | h3
        · rw [h3] at h1
          have h4 : p = (s.heap.objs.size, oI) := Prod.ext h3 (Option.some.inj (h1.symm.trans hoI))
          rw [h4]
          exact N' _ (List.mem_append_left _ (.head _))
        · have h3 := List.mem_singleton.mp h3
          rw [h3] at h1
          have h4 : p = (l, listOf vs.toArray c) := Prod.ext h3 (Option.some.inj (h1.symm.trans hlo))
          rw [h4]
          exact N' _ (List.mem_append_left _ (.tail _ (.head _)))
      · rcases List.mem_cons.mp h with h | h
        · rw [h]; exact N' _ (List.mem_append_left _ (.tail _ (.head _)))
        · exact N' p (List.mem_append_right _ h)
    · have hq := List.mem_singleton.mp hq
      rcases List.mem_cons.mp hp with h | h
      · rw [h] at hq; exact hne hq
      · exact ha p h hq
  · rintro h' tk m' news' F' N' _ ⟨r, rfl, hJ⟩
    exact done m' r h' tk hJ F' N'
end
end Mine
namespace Mine
theorem pos_cons (a : Nat) (r : List Nat) (i : Nat) : pos (a :: r) (i + 1) = (enc a).length + pos r i := by
  unfold pos encs
  rw [List.take_succ_cons, List.flatMap_cons, List.length_append]
theorem enc_high (v n : Nat) (h : n < (enc v).length) : ∀ b ∈ (enc v).take n, 128 ≤ b := by
  intro b hb
  rw [enc_top] at h
  have e : enc v = (top v).map (· + 128) ++ [((v % 128 : Nat) : Int)] := rfl
  rw [e, List.take_append_of_le_length (by rw [List.length_map]; omega)] at hb
  obtain ⟨d, hd, rfl⟩ := List.mem_map.mp (List.mem_of_mem_take hb)
  have := top_bnd v d hd
  omega
theorem cut_split : ∀ (ns : List Nat) (cut : Nat), cut ≤ (encs ns).length → ∃ (j : Nat) (part : List Int), j ≤ ns.length ∧ (encs ns).take cut = encs (ns.take j) ++ part ∧ (∀ b ∈ part, 128 ≤ b) ∧ ∀ i, i < ns.length → (pos ns (i + 1) ≤ cut ↔ i < j) := by
  intro ns
  induction ns with
  | nil => intro cut _; exact ⟨0, [], Nat.le_refl _, by simp [encs], by simp, fun i hi => absurd hi (Nat.not_lt_zero _)⟩
  | cons a r ih =>
    intro cut hc
    have e : encs (a :: r) = enc a ++ encs r := rfl
    by_cases h : cut < (enc a).length
    · refine ⟨0, (enc a).take cut, Nat.zero_le _, ?_, enc_high a cut h, fun i hi => ?_⟩
      · rw [e, List.take_append_of_le_length (Nat.le_of_lt h)]
        rfl
      · rw [pos_cons]
        omega
    · rw [e, List.length_append] at hc
      obtain ⟨j, part, h1, h2, h3, h4⟩ := ih (cut - (enc a).length) (by omega)
      refine ⟨j + 1, part, by simp; omega, ?_, h3, fun i hi => ?_⟩
      · have e2 : cut = (enc a).length + (cut - (enc a).length) := by omega
        rw [e, e2, List.take_length_add_append, h2, List.take_succ_cons]
        show _ = enc a ++ encs (r.take j) ++ part
        rw [List.append_assoc]
      · rw [pos_cons]
        cases i with
        | zero => rw [pos_zero]; omega
        | succ i =>
          have := h4 i (by simp at hi; omega)
          omega
/-- one turn of the numbers due at a cut -/
def dueG (es ns : List Int) (cut : Int) (l : List Int) (k : Int) : List Int := if es.getD k.toNat 0 ≤ cut then l ++ [ns.getD k.toNat 0] else l
theorem dueG_grows (es ns : List Int) (cut : Int) : KPfGrows (dueG es ns cut) := by
  intro l k
  unfold dueG
  split
  · simp
  · simp
theorem due_fold {ns : List Nat} {cut j : Nat} (hj : j ≤ ns.length) (h : ∀ i, i < ns.length → (pos ns (i + 1) ≤ cut ↔ i < j)) : ∀ n, n ≤ ns.length → (rangeKs 0 n).foldl (dueG (endsOf ns ns.length) (ns.map Int.ofNat) (cut : Int)) [] = (ns.take (min n j)).map Int.ofNat := by
  intro n
  induction n with
  | zero => intro _; simp [rangeKs]
  | succ n ih =>
    intro hn
    have e : rangeKs 0 (n + 1) = rangeKs 0 n ++ [(0 : Int) + (n : Int)] := by unfold rangeKs; rw [List.range_succ, List.map_append]; rfl
    rw [e, List.foldl_append, ih (by omega), List.foldl_cons, List.foldl_nil]
    unfold dueG
    rw [ends_getD (by omega : n < ns.length), nums_getD (by omega : n < ns.length)]
    have hp := h n (by omega)
    by_cases hlt : n < j
    · have h1 := hp.mpr hlt
      rw [if_pos (by omega), Nat.min_eq_left (Nat.le_of_lt hlt), Nat.min_eq_left (by omega), ← List.take_append_getElem (by omega : n < ns.length), List.map_append]
      rfl
    · have h1 : ¬ pos ns (n + 1) ≤ cut := fun x => hlt (hp.mp x)
      rw [if_neg (by omega), Nat.min_eq_right (by omega), Nat.min_eq_right (by omega)]
theorem due_is {ns : List Nat} {cut j : Nat} (hj : j ≤ ns.length) (h : ∀ i, i < ns.length → (pos ns (i + 1) ≤ cut ↔ i < j)) : (rangeKs 0 ns.length).foldl (dueG (endsOf ns ns.length) (ns.map Int.ofNat) (cut : Int)) [] = (ns.take j).map Int.ofNat := by
  rw [due_fold hj h ns.length (Nat.le_refl _), Nat.min_eq_right hj]
theorem ends_bnd {ns : List Nat} {n : Nat} {e : Int} (h : e ∈ endsOf ns n) : ∃ p : Nat, e = (p : Int) ∧ p ≤ (encs ns).length := by
  obtain ⟨i, _, rfl⟩ := List.mem_map.mp h
  exact ⟨_, rfl, pos_le ns _⟩
theorem ends_pos {ns : List Nat} {n : Nat} {e : Int} (h : e ∈ endsOf ns n) (hn : n ≤ ns.length) : 1 ≤ e := by
  obtain ⟨i, hi, rfl⟩ := List.mem_map.mp h
  have hi := List.mem_range.mp hi
  rw [pos_succ (by omega : i < ns.length), enc_top]
  omega
/-- every cut lies in the row of octets -/
theorem cut_bnd {ns : List Nat} {st c : Int} {i : Nat} (h : ([0, st.fmod ((encs ns).length + 1)] ++ endsOf ns ns.length ++ List.map (fun k => k - 1) (endsOf ns ns.length))[i]? = some c) : ∃ p : Nat, c = (p : Int) ∧ p ≤ (encs ns).length := by
  have hm := List.mem_of_getElem? h
  rcases List.mem_append.mp hm with hm | hm
  · rcases List.mem_append.mp hm with hm | hm
    · rcases List.mem_cons.mp hm with rfl | hm
      · exact ⟨0, rfl, Nat.zero_le _⟩
      · rw [List.mem_singleton.mp hm]
        have h0 := Int.fmod_nonneg_of_pos st (b := ((encs ns).length + 1 : Int)) (by omega)
        have h1 := Int.fmod_lt_of_pos st (b := ((encs ns).length + 1 : Int)) (by omega)
        exact ⟨(st.fmod ((encs ns).length + 1)).toNat, by omega, by omega⟩
    · exact ends_bnd hm
  · obtain ⟨e, he, rfl⟩ := List.mem_map.mp hm
    have := ends_pos he (Nat.le_refl _)
    obtain ⟨p, rfl, hp⟩ := ends_bnd he
    exact ⟨p - 1, by omega, by omega⟩
end Mine
namespace Mine
section
variable {prog : Program} {w : World} {A : Around} {E : Value → Shared → Prop} {s : Shared} {h₀ : Heap} {L a b la lb : Addr} {news : List (Addr × Obj)} {xs ys : List Value} {ns : List Int} {x : Int} {tx ty : Tok} {ka kb c d : Nat} {Q : Value → Shared → Prop}
theorem pair_ne (N : News h₀ L s.heap news) (ha : (a, ({ cls := .type "tuple", data := .seq #[.ref la, .int x tx] ka } : Obj)) ∈ news) (hb : (b, ({ cls := .type "tuple", data := .seq #[.ref lb, .int x ty] kb } : Obj)) ∈ news)
    (hla : (la, listOf xs.toArray c) ∈ news) (hlb : (lb, listOf ys.toArray d) ∈ news) (hi : IntsAre xs ns) (hj : IntsAre ys ns) (hu : A.units + 64 < cLine) (h : Q (.bool false) s) :
    wpAny (model prog w) A (compareOp .NotEq (.ref a) (.ref b)) Q E s := by
  have sh : SeqAt.shaped (.tuple [.list (ns.map PyData.int), .int x]) = true := by
    simp [SeqAt.shaped, PyData.canLay0, PyData.canLayAll0, PyData.depth, PyData.depthAll, ke_canLayAll0, ke_depthAll]
  refine ne_dataH (reads_tuple_at (N _ ha).1 rfl rfl (.cons (reads_newData (PySem.IsL.isList (n := c) (N _ hla).1) (ke_carried hi)) (.cons (Reads.int _ _) .nil)))
    (reads_tuple_at (N _ hb).1 rfl rfl (.cons (reads_newData (PySem.IsL.isList (n := d) (N _ hlb).1) (ke_carried hj)) (.cons (Reads.int _ _) .nil))) sh sh hu ?_
  have e : PyData.eqv (.tuple [.list (ns.map PyData.int), .int x]) (.tuple [.list (ns.map PyData.int), .int x]) = true := by
    simp [PyData.eqv, PyData.eqvAll, ked_eqvAll]
  rw [e]
  exact h
end
end Mine
namespace Mine
local macro_rules | `(tactic| k_all) => `(tactic| first | with_reducible assumption | exact ne_of_ltAll (by assumption) | exact ne_of_allLt (by assumption) | fail "k_all")
local macro_rules | `(tactic| k_allIn) => `(tactic| (intro p hp; k_ownIn))
local macro_rules | `(tactic| walk_at "exec While") => `(tactic| refine stop_out ?_)
local macro_rules | `(tactic| walk_at "pyIter ref") => `(tactic| refine stop_out ?_)
local macro_rules | `(tactic| walk_at "call builtin:list.append") => `(tactic| (k_dflt (refine' my_append ?k1 ?k2 ?k3 ?z ?_; (case k1 => k_asm); (case k2 => k_asm); (case k3 => k_upd); (case z => (simp only [sizeLine_eq]; omega)); k_whole); intro h' F' N'; (try k_sweep)))
local macro_rules | `(tactic| walk_at "call builtin:list.reverse") => `(tactic| (k_dflt (refine' my_reverse ?k1 ?k2 ?k3 ?z ?_; (case k1 => k_asm); (case k2 => k_asm); (case k3 => k_upd); (case z => (simp only [sizeLine_eq]; omega)); k_whole); intro h' F' N'; (try k_sweep)))
local macro_rules | `(tactic| walk_at "call builtin:len") => `(tactic| (k_dflt (refine' my_len ?k1 ?k2 ?k3 ?z ?_; (case k1 => k_asm); (case k2 => k_mem); (case k3 => k_asm); (case z => omega); k_whole)))
local macro_rules | `(tactic| walk_at "exec For Name Name cons nil") => `(tactic| ((rename Fr _ _ _ _ => lF'); (with_unfolding_all refine' For_invVF lF' ?k1 ?k2 ?_; (case k1 => exact rfl); (case k2 => exact rfl); k_whole)))
local macro_rules | `(tactic| walk_at "exec For Name Call cons nil") => `(tactic| ((rename Fr _ _ _ _ => lF'); (with_unfolding_all refine' For_invVF lF' ?k1 ?k2 ?_; (case k1 => exact rfl); (case k2 => exact rfl); k_whole)))
local macro_rules | `(tactic| walk_at "inplaceOp LShift int int") => `(tactic| (dsimp only; refine ilshift_int_small (by decide) (by decide) (by omega) ?_))
local macro_rules | `(tactic| walk_at "binaryOp LShift int int") => `(tactic| (dsimp only; first | refine lshift_int (by decide) (by assumption) ?_ | refine lshift_int_small (by decide) (by decide) (by omega) ?_))
local macro_rules | `(tactic| walk_at "call ref") => `(tactic| (k_here; k_dflt (first
  | (refine' call_cls ?k1 ?k2 ?k3 ?k4 ?k5 ?k6 ?_; (case k1 => k_asm); (case k2 => k_asm); (case k3 => k_asm); (case k4 => k_is); (case k5 => k_is); (case k6 => k_is); k_whole; intro x' d' h' F' N' l1 l2; (try k_lt l1); (try k_lt2 l2); (try k_sweep); (refine' code_def ?k1 ?k2 ?k3 ?k4 ?k5 ?kA ?kF ?kK ?k6 ?k7 ?k8 ?k9 ?kB ?_ ?c2 ?c3 ?c4 ?c5; (case kA => exact rfl); (case kF => exact rfl); (case kK => first | assumption | exact rfl); (case k1 => k_asm); (case k2 => k_asm); (case k3 => k_asm); (case k4 => k_asm); (case k5 => k_asm); (case k6 => k_is); (case k7 => k_is); (case k8 => ((try simp only [mark_depth]); ktr_room)); (case k9 => first | exact BindsTo.of_eq rfl | exact binds_K (by k_in) rfl (by k_is) rfl rfl rfl); (case c5 => decide); (case kB => exact locs rfl); (case c2 => exact rfl); (case c3 => exact rfl); (case c4 => exact rfl); k_whole; intro g' L' h' FG' F' N' B' X' T'; (try dsimp only); (try k_fold)))
  | (refine wpAny_call ?_; (refine' code_def ?k1 ?k2 ?k3 ?k4 ?k5 ?kA ?kF ?kK ?k6 ?k7 ?k8 ?k9 ?kB ?_ ?c2 ?c3 ?c4 ?c5; (case kA => exact rfl); (case kF => exact rfl); (case kK => first | assumption | exact rfl); (case k1 => k_asm); (case k2 => k_asm); (case k3 => k_asm); (case k4 => k_asm); (case k5 => k_asm); (case k6 => k_is); (case k7 => k_is); (case k8 => ((try simp only [mark_depth]); ktr_room)); (case k9 => first | exact BindsTo.of_eq rfl | exact binds_K (by k_in) rfl (by k_is) rfl rfl rfl); (case c5 => decide); (case kB => exact locs rfl); (case c2 => exact rfl); (case c3 => exact rfl); (case c4 => exact rfl); k_whole; intro g' L' h' FG' F' N' B' X' T'; (try dsimp only); (try k_fold))))))
local macro_rules | `(tactic| walk_at "compareOp Eq ref ref") => `(tactic| (k_dflt (refine' my_eq ?k1 ?k2 ?k3 ?k4 ?k5 ?k6 ?_; (case k1 => k_asm); (case k2 => k_mem); (case k3 => k_mem); (case k4 => first | exact .nil | k_asm); (case k5 => first | exact .nil | k_asm); (case k6 => ktr_units); k_whole)))
local macro_rules | `(tactic| walk_at "compareOp NotEq ref ref") => `(tactic| (k_dflt (refine' my_ne ?k1 ?k2 ?k3 ?k4 ?k5 ?k6 ?_; (case k1 => k_asm); (case k2 => k_mem); (case k3 => k_mem); (case k4 => first | exact .nil | k_asm); (case k5 => first | exact .nil | k_asm); (case k6 => ktr_units); k_whole)))
def EncJ (v : Nat) (news : List (Addr × Obj)) (n : Nat) (m : Str → Option Value) (nx : List (Addr × Obj)) : Prop :=
  ∃ (x : Nat) (tx : Tok) (lo : Addr) (vs : List Value) (c : Nat) (ds : List Int), n = x ∧ m (Str.ofString "value") = some (.int x tx) ∧ m (Str.ofString "octets") = some (.ref lo) ∧
    nx = (lo, listOf vs.toArray c) :: news ∧ (∀ q ∈ news, q.1 < lo) ∧ IntsAre vs ds ∧ ds ++ low x = low v
def EncK (v : Nat) (news : List (Addr × Obj)) (lo : Addr) (c : Nat) (i : Nat) (m : Str → Option Value) (nx : List (Addr × Obj)) : Prop :=
  ∃ (vs : List Value), m (Str.ofString "octets") = some (.ref lo) ∧ nx = (lo, listOf vs.toArray c) :: news ∧ IntsAre vs (fl i (low v).reverse)

set_option maxRecDepth 100000 in
set_option maxHeartbeats 8000000 in
theorem enc_con (w : World) (v : Nat) (t : Tok) (news : List (Addr × Obj)) (h1 : (v : Int) < 2 ^ 63) : Con w 21 [.int v t] news 2 (fun h₀ L m s Q E => 
   ∀ l c vs h' tk', Fr h₀ L h' m → News h₀ L h' ((l, listOf vs.toArray c) :: news) → (∀ q ∈ news, q.1 < l) → IntsAre vs (enc v) → Q (.ref l) { s with heap := h', toks := tk' }) := by
  unfold Con
  k_fill
  w_on
  intro mean mg mb dp un gd cn cs a ccd cl outer A₀ base h₀ L m s Q E B F X N T hk hd hu hret
  w_strict (refine wpAny_call ?_; k_dflt ktr_enter; k_steps)
  refine stop_in ?_
  rename Fr _ _ _ _ => F1
  rename News _ _ _ _ => N1
  rename ∀ p ∈ news, p.1 < _ => l1
  refine While_inv2 (EncJ v news) F1 N1 (n₀ := v) ⟨v, t, _, [], 0, [], rfl, rfl, rfl, rfl, l1, .nil, rfl⟩ ?_
  rintro n m₁ news₁ h₁ tk₁ F₂ N₂ ⟨x, tx, lo, vs, c, ds, rfl, hm1, hm2, rfl, hlo, hvs, hds⟩
  have F₃ := fr_see [(Str.ofString "value", .int n tx), (Str.ofString "octets", .ref lo)] F₂ (see2 hm1 hm2)
  clear F₂ hm1 hm2 F1 N1 l1
  have hrev : IntsAre vs.reverse ds.reverse := IntsAre.reverse hvs
  have hl9 := low_len9 h1
  have hle : ds.length + (low n).length = (low v).length := by rw [← hds, List.length_append]
  have hvl := hvs.length
  have hlen : vs.length ≤ 1000 := by omega
  have hrl : ds.reverse.length ≤ 1000 := by rw [List.length_reverse]; omega
  w_strict ((try k_fold); k_steps)
  · -- a turn's end
    rename News _ _ _ _ => NN
    rename Fr _ _ _ (fun y => _) => FF
    rename ((n : Int) ≠ 0) => hn
    have hn' : n ≠ 0 := by omega
    have e1 : (n : Int).fdiv (2 ^ Int.toNat 7) = ((n / 128 : Nat) : Int) := by
      show (n : Int).fdiv 128 = _
      rw [Int.fdiv_eq_ediv_of_nonneg _ (by omega)]
      omega
    refine ⟨_, _, _, _, n / 128, rfl, FF, NN, by omega, n / 128, _, lo, _, _, ds ++ [Builtin.bitAnd (n : Int) 127], rfl, (if_pos rfl).trans (by rw [e1]), (if_neg (by decide)).trans (by with_unfolding_all rfl), rfl, hlo, hvs.append (.cons _ _ .nil), ?_⟩
    rw [List.append_assoc, ← hds, low_pos hn', bitAnd_m7]
    rfl
  · -- the octets, the greatest first
    refine stop_in ?_
    rename IsRange _ _ _ _ _ _ _ _ => hR
    rename ((n : Int) = 0) => hn
    have hn' : n = 0 := by omega
    rw [hn', low_zero, List.append_nil] at hds
    subst hds
    rename News _ _ _ _ => NN
    rename Fr _ _ _ _ => FF
    have hlr : (low v).reverse.length = (low v).length := List.length_reverse
    refine for_range (n := (low v).length - 1) (EncK v news lo c) rfl hR (small_one (by omega) (by omega) (by omega) (by omega)) (by rw [rangeSize_nat]; omega) FF NN ⟨_, by with_unfolding_all rfl, rfl, by rw [fl_zero]; assumption⟩ ?_ ?_
    · rintro i ti m₂ news₂ h₂ tk₂ I oI hi ⟨vs2, hm, rfl, hv2⟩ hne F₅ N₅
      have F₆ := fr_top [(Str.ofString "octets", .ref lo)] F₅ (see1 hm)
      clear F₅
      have hIlo := neN (hne _ (.head _))
      have hil : i < (low v).reverse.length := by rw [List.length_reverse]; omega
      have hl5 := fl_len i (low v).reverse
      have hk0 : (0 : Int) ≤ 0 + (i : Int) := by omega
      have hk1 : (0 : Int) + (i : Int) < ((fl i (low v).reverse).length : Int) := by omega
      have hd := low_bnd v (low v).reverse[i] (List.mem_reverse.mp (List.getElem_mem hil))
      w_strict ((try k_fold); k_steps)
      rename Fr _ _ _ (fun y => _) => F7
      rename News _ _ _ _ => N7
      rename IntsAre (List.set _ _ _) _ => hi7
      have ei : ((0 : Int) + (i : Int)).toNat = i := by omega
      have e9 : (fl i (low v).reverse).set ((0 : Int) + (i : Int)).toNat (Builtin.bitOr ((fl i (low v).reverse).getD ((0 : Int) + (i : Int)).toNat 0) 128) = fl (i + 1) (low v).reverse := by rw [ei, fl_at hil, or128 hd.1 hd.2, fl_set hil]
      rw [e9] at hi7
      exact fend _ F7 N7 (fun p hp => hp) (List.forall_mem_cons.mpr ⟨hIlo, fun p hp => hne p (.tail _ hp)⟩) ⟨_, (if_neg (by decide)).trans (by with_unfolding_all rfl), rfl, hi7⟩
    · rintro m₂ nx h₂ tk₂ ⟨vs2, hm, rfl, hv2⟩ F₅ N₅
      have F₆ := fr_see [(Str.ofString "octets", .ref lo)] F₅ (see1 hm)
      clear F₅
      w_strict (dsimp only; (try k_fold); k_steps)
      rename (0 < (low v).length) => hp
      have hv : v ≠ 0 := by
        intro h
        subst h
        rw [low_zero] at hp
        exact Nat.lt_irrefl _ hp
      rw [enc_is hv] at hv2
      rename Fr h₀ L _ m => F7
      rename News h₀ L _ _ => N7
      exact hret _ _ _ _ _ F7 N7 hlo hv2
  · -- nought
    rename ((n : Int) = 0) => hn
    rename (¬ 0 < ds.length) => he
    have hn' : n = 0 := by omega
    have hd0 : ds.length = 0 := by omega
    rename Fr h₀ L _ m => FF
    rename News h₀ L _ _ => NN
    rename (lo < _ ∧ _) => hlt
    refine hret _ _ _ _ _ FF (news_two NN) (lt_of_ltAll hlo (Nat.le_of_lt hlt.1)) ?_
    · have hv : v = 0 := by
        by_cases hv : v = 0
        · exact hv
        · rw [low_pos hv, hn', low_zero, List.length_cons] at hle
          simp at hle
          omega
      subst hv
      have e : enc 0 = [0] := by unfold enc; rw [Nat.zero_div, low_zero]; rfl
      rw [e]
      exact .cons 0 _ .nil
end Mine
namespace Mine
local macro_rules | `(tactic| k_all) => `(tactic| first | with_reducible assumption | exact ne_of_ltAll (by assumption) | exact ne_of_allLt (by assumption) | fail "k_all")
local macro_rules | `(tactic| k_allIn) => `(tactic| (intro p hp; k_ownIn))
local macro_rules | `(tactic| walk_at "exec While") => `(tactic| refine stop_out ?_)
local macro_rules | `(tactic| walk_at "pyIter ref") => `(tactic| refine stop_out ?_)
local macro_rules | `(tactic| walk_at "call builtin:list.append") => `(tactic| (k_dflt (refine' my_append ?k1 ?k2 ?k3 ?z ?_; (case k1 => k_asm); (case k2 => k_asm); (case k3 => k_upd); (case z => (simp only [sizeLine_eq]; omega)); k_whole); intro h' F' N'; (try k_sweep)))
local macro_rules | `(tactic| walk_at "call builtin:list.reverse") => `(tactic| (k_dflt (refine' my_reverse ?k1 ?k2 ?k3 ?z ?_; (case k1 => k_asm); (case k2 => k_asm); (case k3 => k_upd); (case z => (simp only [sizeLine_eq]; omega)); k_whole); intro h' F' N'; (try k_sweep)))
local macro_rules | `(tactic| walk_at "call builtin:len") => `(tactic| (k_dflt (refine' my_len ?k1 ?k2 ?k3 ?z ?_; (case k1 => k_asm); (case k2 => k_mem); (case k3 => k_asm); (case z => omega); k_whole)))
local macro_rules | `(tactic| walk_at "exec For Name Name cons nil") => `(tactic| ((rename Fr _ _ _ _ => lF'); (with_unfolding_all refine' For_invVF lF' ?k1 ?k2 ?_; (case k1 => exact rfl); (case k2 => exact rfl); k_whole)))
local macro_rules | `(tactic| walk_at "exec For Name Call cons nil") => `(tactic| ((rename Fr _ _ _ _ => lF'); (with_unfolding_all refine' For_invVF lF' ?k1 ?k2 ?_; (case k1 => exact rfl); (case k2 => exact rfl); k_whole)))
local macro_rules | `(tactic| walk_at "inplaceOp LShift int int") => `(tactic| (dsimp only; refine ilshift_int_small (by decide) (by decide) (by omega) ?_))
local macro_rules | `(tactic| walk_at "binaryOp LShift int int") => `(tactic| (dsimp only; first | refine lshift_int (by decide) (by assumption) ?_ | refine lshift_int_small (by decide) (by decide) (by omega) ?_))
local macro_rules | `(tactic| walk_at "call ref") => `(tactic| (k_here; k_dflt (first
  | (refine' call_cls ?k1 ?k2 ?k3 ?k4 ?k5 ?k6 ?_; (case k1 => k_asm); (case k2 => k_asm); (case k3 => k_asm); (case k4 => k_is); (case k5 => k_is); (case k6 => k_is); k_whole; intro x' d' h' F' N' l1 l2; (try k_lt l1); (try k_lt2 l2); (try k_sweep); (refine' code_def ?k1 ?k2 ?k3 ?k4 ?k5 ?kA ?kF ?kK ?k6 ?k7 ?k8 ?k9 ?kB ?_ ?c2 ?c3 ?c4 ?c5; (case kA => exact rfl); (case kF => exact rfl); (case kK => first | assumption | exact rfl); (case k1 => k_asm); (case k2 => k_asm); (case k3 => k_asm); (case k4 => k_asm); (case k5 => k_asm); (case k6 => k_is); (case k7 => k_is); (case k8 => ((try simp only [mark_depth]); ktr_room)); (case k9 => first | exact BindsTo.of_eq rfl | exact binds_K (by k_in) rfl (by k_is) rfl rfl rfl); (case c5 => decide); (case kB => exact locs rfl); (case c2 => exact rfl); (case c3 => exact rfl); (case c4 => exact rfl); k_whole; intro g' L' h' FG' F' N' B' X' T'; (try dsimp only); (try k_fold)))
  | (refine wpAny_call ?_; (refine' code_def ?k1 ?k2 ?k3 ?k4 ?k5 ?kA ?kF ?kK ?k6 ?k7 ?k8 ?k9 ?kB ?_ ?c2 ?c3 ?c4 ?c5; (case kA => exact rfl); (case kF => exact rfl); (case kK => first | assumption | exact rfl); (case k1 => k_asm); (case k2 => k_asm); (case k3 => k_asm); (case k4 => k_asm); (case k5 => k_asm); (case k6 => k_is); (case k7 => k_is); (case k8 => ((try simp only [mark_depth]); ktr_room)); (case k9 => first | exact BindsTo.of_eq rfl | exact binds_K (by k_in) rfl (by k_is) rfl rfl rfl); (case c5 => decide); (case kB => exact locs rfl); (case c2 => exact rfl); (case c3 => exact rfl); (case c4 => exact rfl); k_whole; intro g' L' h' FG' F' N' B' X' T'; (try dsimp only); (try k_fold))))))
local macro_rules | `(tactic| walk_at "compareOp Eq ref ref") => `(tactic| (k_dflt (refine' my_eq ?k1 ?k2 ?k3 ?k4 ?k5 ?k6 ?_; (case k1 => k_asm); (case k2 => k_mem); (case k3 => k_mem); (case k4 => first | exact .nil | k_asm); (case k5 => first | exact .nil | k_asm); (case k6 => ktr_units); k_whole)))
local macro_rules | `(tactic| walk_at "compareOp NotEq ref ref") => `(tactic| (k_dflt (refine' my_ne ?k1 ?k2 ?k3 ?k4 ?k5 ?k6 ?_; (case k1 => k_asm); (case k2 => k_mem); (case k3 => k_mem); (case k4 => first | exact .nil | k_asm); (case k5 => first | exact .nil | k_asm); (case k6 => ktr_units); k_whole)))
def DecJ (v : Nat) (l : Addr) (c : Nat) (news : List (Addr × Obj)) (i : Nat) (m : Str → Option Value) (nx : List (Addr × Obj)) : Prop :=
  ∃ (vs : List Value), m (Str.ofString "value") = some (.ref l) ∧ nx = (l, listOf vs.toArray c) :: news ∧ IntsAre vs (dl i v)
def DecK (ds : List Int) (news : List (Addr × Obj)) (i : Nat) (m : Str → Option Value) (nx : List (Addr × Obj)) : Prop :=
  ∃ (tx : Tok), m (Str.ofString "val") = some (.int (val (ds.take i)) tx) ∧ nx = news
set_option maxRecDepth 100000 in
set_option maxHeartbeats 8000000 in
/-- decode: the list at l, the octets of v, is written into; v comes back -/
theorem dec_con (w : World) (v : Nat) (l : Addr) (vs : List Value) (c : Nat) (news : List (Addr × Obj)) (h1 : (v : Int) < 2 ^ 63) (hvs : IntsAre vs (enc v)) (hlt : ∀ q ∈ news, q.1 < l) : Con w 28 [.ref l] ((l, listOf vs.toArray c) :: news) 2 (fun h₀ L m s Q E => 
   ∀ tv h' tk', Fr h₀ L h' m → News h₀ L h' news → Q (.int (v : Int) tv) { s with heap := h', toks := tk' }) := by
  unfold Con
  k_fill
  w_on
  intro mean mg mb dp un gd cn cs a ccd cl outer A₀ base h₀ L m s Q E B F X N T hk hd hu hret
  have hl9 := enc_len9 h1
  have htl := enc_top v
  w_strict (refine wpAny_call ?_; k_dflt ktr_enter; k_steps)
  refine stop_in ?_
  rename IsRange _ _ _ _ _ _ _ _ => hR
  rename News _ _ _ _ => NN
  rename Fr _ _ _ _ => FF
  refine for_range (n := (top v).length) (DecJ v l c news) rfl hR (small_one (by omega) (by omega) (by omega) (by omega)) (by rw [rangeSize_nat]; omega) FF NN ⟨_, by with_unfolding_all rfl, rfl, by rw [dl_zero]; assumption⟩ ?_ ?_
  · rintro i ti m₂ news₂ h₂ tk₂ I oI hi ⟨vs2, hm, rfl, hv2⟩ hne F₅ N₅
    have F₆ := fr_top [(Str.ofString "value", .ref l)] F₅ (see1 hm)
    clear F₅
    have hIlo := neN (hne _ (.head _))
    have hl5 := dl_len i v
    have hk0 : (0 : Int) ≤ 0 + (i : Int) := by omega
    have hk1 : (0 : Int) + (i : Int) < ((dl i v).length : Int) := by omega
    have hd := top_bnd v (top v)[i] (List.getElem_mem hi)
    w_strict ((try k_fold); k_steps)
    rename Fr _ _ _ (fun y => _) => F7
    rename News _ _ _ _ => N7
    rename IntsAre (List.set _ _ _) _ => hi7
    have ei : ((0 : Int) + (i : Int)).toNat = i := by omega
    have e9 : (dl i v).set ((0 : Int) + (i : Int)).toNat (Builtin.bitAnd ((dl i v).getD ((0 : Int) + (i : Int)).toNat 0) (Builtin.bitNot 128)) = dl (i + 1) v := by rw [ei, dl_at hi, and_not128 hd.1 hd.2, dl_set hi]
    rw [e9] at hi7
    exact fend _ F7 N7 (fun p hp => hp) (List.forall_mem_cons.mpr ⟨hIlo, fun p hp => hne p (.tail _ hp)⟩) ⟨_, (if_neg (by decide)).trans (by with_unfolding_all rfl), rfl, hi7⟩
  · rintro m₂ nx h₂ tk₂ ⟨vs2, hm, rfl, hv2⟩ F₅ N₅
    have F₆ := fr_see [(Str.ofString "value", .ref l)] F₅ (see1 hm)
    clear F₅
    rw [dl_end] at hv2
    w_strict (dsimp only; (try k_fold); k_steps)
    refine stop_in ?_
    rename Fr _ _ _ (fun y => _) => F7
    rename News _ _ _ _ => N7
    refine for_list (DecK (top v ++ [((v % 128 : Nat) : Int)]) news) rfl hv2 F7 N7 ⟨_, if_pos rfl, rfl⟩ ?_ ?_
    · rintro i n t m₃ news₃ h₃ tk₃ I oI hi ⟨tx, hm3, rfl⟩ hne F₈ N₈
      have F₉ := fr_top [(Str.ofString "val", .int _ tx)] F₈ (see1 hm3)
      clear F₈
      have hlen : (top v ++ [((v % 128 : Nat) : Int)]).length ≤ 9 := by simp only [List.length_append, List.length_cons, List.length_nil]; omega
      have hall : ∀ d ∈ top v ++ [((v % 128 : Nat) : Int)], 0 ≤ d ∧ d < 128 := by
        intro d hd
        rcases List.mem_append.mp hd with hd | hd
        · exact top_bnd v d hd
        · rw [List.mem_singleton.mp hd]; omega
      have hvb := val_bnd (ds := (top v ++ [((v % 128 : Nat) : Int)]).take i) (n := 9) (fun d hd => hall d (List.mem_of_mem_take hd)) (by rw [List.length_take]; omega) (by decide)
      have hn := hall n (List.mem_of_getElem? hi)
      w_strict ((try k_fold); k_steps)
      rename Fr _ _ _ (fun y => _) => F7
      rename News _ _ _ ((I, oI) :: _) => N7
      have e9 : val ((top v ++ [((v % 128 : Nat) : Int)]).take (i + 1)) = Builtin.bitOr (val ((top v ++ [((v % 128 : Nat) : Int)]).take i) * 2 ^ Int.toNat 7) n := by
        rw [List.take_add_one, hi, Option.toList_some, val_snoc]
        exact (or_low hn.1 hn.2).symm
      refine fend _ F7 N7 (fun p hp => hp) (fun p hp => hne p (.tail _ hp)) ⟨_, (if_pos rfl).trans (by rw [e9]), rfl⟩
    · rintro m₃ nx h₃ tk₃ ⟨tx, hm3, rfl⟩ F₈ N₈
      have F₉ := fr_see [(Str.ofString "val", .int _ tx)] F₈ (see1 hm3)
      clear F₈
      have ev : val ((top v ++ [((v % 128 : Nat) : Int)]).take (top v ++ [((v % 128 : Nat) : Int)]).length) = (v : Int) := by rw [List.take_length, val_all]
      rw [ev] at F₉
      w_strict (dsimp only; (try k_fold); k_steps)
      rename Fr h₀ L _ m => F10
      rename News h₀ L _ _ => N10
      exact hret _ _ _ F10 fun p hp => N10 p (.tail _ hp)
end Mine
namespace Mine
local macro_rules | `(tactic| k_all) => `(tactic| first | with_reducible assumption | exact ne_of_ltAll (by assumption) | exact ne_of_allLt (by assumption) | fail "k_all")
local macro_rules | `(tactic| k_allIn) => `(tactic| (intro p hp; k_ownIn))
local macro_rules | `(tactic| walk_at "exec While") => `(tactic| refine stop_out ?_)
local macro_rules | `(tactic| walk_at "pyIter ref") => `(tactic| refine stop_out ?_)
local macro_rules | `(tactic| walk_at "call builtin:list.append") => `(tactic| (k_dflt (refine' my_append ?k1 ?k2 ?k3 ?z ?_; (case k1 => k_asm); (case k2 => k_asm); (case k3 => k_upd); (case z => (simp only [sizeLine_eq]; omega)); k_whole); intro h' F' N'; (try k_sweep)))
local macro_rules | `(tactic| walk_at "call builtin:list.reverse") => `(tactic| (k_dflt (refine' my_reverse ?k1 ?k2 ?k3 ?z ?_; (case k1 => k_asm); (case k2 => k_asm); (case k3 => k_upd); (case z => (simp only [sizeLine_eq]; omega)); k_whole); intro h' F' N'; (try k_sweep)))
local macro_rules | `(tactic| walk_at "call builtin:len") => `(tactic| (k_dflt (refine' my_len ?k1 ?k2 ?k3 ?z ?_; (case k1 => k_asm); (case k2 => k_mem); (case k3 => k_asm); (case z => omega); k_whole)))
local macro_rules | `(tactic| walk_at "exec For Name Name cons nil") => `(tactic| ((rename Fr _ _ _ _ => lF'); (with_unfolding_all refine' For_invVF lF' ?k1 ?k2 ?_; (case k1 => exact rfl); (case k2 => exact rfl); k_whole)))
local macro_rules | `(tactic| walk_at "exec For Name Call cons nil") => `(tactic| ((rename Fr _ _ _ _ => lF'); (with_unfolding_all refine' For_invVF lF' ?k1 ?k2 ?_; (case k1 => exact rfl); (case k2 => exact rfl); k_whole)))
local macro_rules | `(tactic| walk_at "inplaceOp LShift int int") => `(tactic| (dsimp only; refine ilshift_int_small (by decide) (by decide) (by omega) ?_))
local macro_rules | `(tactic| walk_at "binaryOp LShift int int") => `(tactic| (dsimp only; first | refine lshift_int (by decide) (by assumption) ?_ | refine lshift_int_small (by decide) (by decide) (by omega) ?_))
local macro_rules | `(tactic| walk_at "call ref") => `(tactic| (k_here; k_dflt (first
  | (refine' call_cls ?k1 ?k2 ?k3 ?k4 ?k5 ?k6 ?_; (case k1 => k_asm); (case k2 => k_asm); (case k3 => k_asm); (case k4 => k_is); (case k5 => k_is); (case k6 => k_is); k_whole; intro x' d' h' F' N' l1 l2; (try k_lt l1); (try k_lt2 l2); (try k_sweep); (refine' code_def ?k1 ?k2 ?k3 ?k4 ?k5 ?kA ?kF ?kK ?k6 ?k7 ?k8 ?k9 ?kB ?_ ?c2 ?c3 ?c4 ?c5; (case kA => exact rfl); (case kF => exact rfl); (case kK => first | assumption | exact rfl); (case k1 => k_asm); (case k2 => k_asm); (case k3 => k_asm); (case k4 => k_asm); (case k5 => k_asm); (case k6 => k_is); (case k7 => k_is); (case k8 => ((try simp only [mark_depth]); ktr_room)); (case k9 => first | exact BindsTo.of_eq rfl | exact binds_K (by k_in) rfl (by k_is) rfl rfl rfl); (case c5 => decide); (case kB => exact locs rfl); (case c2 => exact rfl); (case c3 => exact rfl); (case c4 => exact rfl); k_whole; intro g' L' h' FG' F' N' B' X' T'; (try dsimp only); (try k_fold)))
  | (refine wpAny_call ?_; (refine' code_def ?k1 ?k2 ?k3 ?k4 ?k5 ?kA ?kF ?kK ?k6 ?k7 ?k8 ?k9 ?kB ?_ ?c2 ?c3 ?c4 ?c5; (case kA => exact rfl); (case kF => exact rfl); (case kK => first | assumption | exact rfl); (case k1 => k_asm); (case k2 => k_asm); (case k3 => k_asm); (case k4 => k_asm); (case k5 => k_asm); (case k6 => k_is); (case k7 => k_is); (case k8 => ((try simp only [mark_depth]); ktr_room)); (case k9 => first | exact BindsTo.of_eq rfl | exact binds_K (by k_in) rfl (by k_is) rfl rfl rfl); (case c5 => decide); (case kB => exact locs rfl); (case c2 => exact rfl); (case c3 => exact rfl); (case c4 => exact rfl); k_whole; intro g' L' h' FG' F' N' B' X' T'; (try dsimp only); (try k_fold))))))
local macro_rules | `(tactic| walk_at "compareOp Eq ref ref") => `(tactic| (k_dflt (refine' my_eq ?k1 ?k2 ?k3 ?k4 ?k5 ?k6 ?_; (case k1 => k_asm); (case k2 => k_mem); (case k3 => k_mem); (case k4 => first | exact .nil | k_asm); (case k5 => first | exact .nil | k_asm); (case k6 => ktr_units); k_whole)))
local macro_rules | `(tactic| walk_at "compareOp NotEq ref ref") => `(tactic| (k_dflt (refine' my_ne ?k1 ?k2 ?k3 ?k4 ?k5 ?k6 ?_; (case k1 => k_asm); (case k2 => k_mem); (case k3 => k_mem); (case k4 => first | exact .nil | k_asm); (case k5 => first | exact .nil | k_asm); (case k6 => ktr_units); k_whole)))
def DigJ (v : Nat) (news : List (Addr × Obj)) (n : Nat) (m : Str → Option Value) (nx : List (Addr × Obj)) : Prop :=
  ∃ (x : Nat) (tx : Tok) (lo : Addr) (vs : List Value) (c : Nat) (ds : List Int), n = x ∧ m (Str.ofString "number") = some (.int x tx) ∧ m (Str.ofString "row") = some (.ref lo) ∧
    nx = (lo, listOf vs.toArray c) :: news ∧ (∀ q ∈ news, q.1 < lo) ∧ IntsAre vs ds ∧ (low x).reverse.map (· + 128) ++ ds = enc v
set_option maxRecDepth 100000 in
set_option maxHeartbeats 8000000 in
theorem dig_con (w : World) (v : Nat) (t : Tok) (news : List (Addr × Obj)) (h1 : (v : Int) < 2 ^ 63) : Con w 106 [.int v t] news 2 (fun h₀ L m s Q E => 
   ∀ l c vs h' tk', Fr h₀ L h' m → News h₀ L h' ((l, listOf vs.toArray c) :: news) → (∀ q ∈ news, q.1 < l) → IntsAre vs (enc v) → Q (.ref l) { s with heap := h', toks := tk' }) := by
  unfold Con
  k_fill
  w_on
  intro mean mg mb dp un gd cn cs a ccd cl outer A₀ base h₀ L m s Q E B F X N T hk hd hu hret
  have hl9 := enc_len9 h1
  w_strict (refine wpAny_call ?_; k_dflt ktr_enter; k_steps)
  refine stop_in ?_
  rename Fr _ _ _ _ => F1
  rename News _ _ _ _ => N1
  rename ∀ p ∈ news, p.1 < _ => l1
  have e1 : (v : Int).fdiv 128 = ((v / 128 : Nat) : Int) := by
    rw [Int.fdiv_eq_ediv_of_nonneg _ (by omega)]
    omega
  have e2 : (v : Int).fmod 128 = ((v % 128 : Nat) : Int) := by
    rw [Int.fmod_eq_emod_of_nonneg _ (by omega)]
    omega
  refine While_inv2 (DigJ v news) F1 N1 (n₀ := v / 128) ⟨v / 128, _, _, _, _, [((v % 128 : Nat) : Int)], rfl, (if_pos rfl).trans (by rw [e1]), by with_unfolding_all rfl, rfl, l1, ?_, rfl⟩ ?_
  · rw [← e2]; exact .cons _ _ .nil
  rintro n m₁ news₁ h₁ tk₁ F₂ N₂ ⟨x, tx, lo, vs, c, ds, rfl, hm1, hm2, rfl, hlo, hvs, hds⟩
  have F₃ := fr_see [(Str.ofString "number", .int n tx), (Str.ofString "row", .ref lo)] F₂ (see2 hm1 hm2)
  clear F₂ hm1 hm2 F1 N1 l1
  have hle : (low n).length + ds.length = (enc v).length := by rw [← hds, List.length_append, List.length_map, List.length_reverse]
  have hvl := hvs.length
  w_strict ((try k_fold); k_steps)
  · rename Fr _ _ _ (fun y => _) => F7
    rename News _ _ _ _ => N7
    rename IntsAre _ ([_] ++ ds) => hi7
    rename (_ < _ ∧ _ < _ ∧ _) => l7
    rename (0 < (n : Int)) => hn
    have e3 : (n : Int).fdiv 128 = ((n / 128 : Nat) : Int) := by
      rw [Int.fdiv_eq_ediv_of_nonneg _ (by omega)]
      omega
    have e4 : 128 + (n : Int).fmod 128 = ((n % 128 : Nat) : Int) + 128 := by
      rw [Int.fmod_eq_emod_of_nonneg _ (by omega)]
      omega
    refine ⟨_, _, _, _, n / 128, rfl, F7, news_three N7, by omega, n / 128, _, _, _, _, _, rfl, (if_pos rfl).trans (by rw [e3]), (if_neg (by decide)).trans (if_pos rfl), rfl, lt_of_ltAll hlo (Nat.le_of_lt l7.2.1), hi7, ?_⟩
    rw [← hds, low_pos (v := n) (by omega), List.reverse_cons, List.map_append, List.append_assoc, e4]
    rfl
  · rename Fr h₀ L _ m => F7
    rename News h₀ L _ _ => N7
    rename (¬ 0 < (n : Int)) => hn
    have hn0 : n = 0 := by omega
    rw [hn0, low_zero] at hds
    have hds' : ds = enc v := hds
    rw [hds'] at hvs
    exact hret _ _ _ _ _ F7 N7 hlo hvs
end Mine
namespace Mine
local macro_rules | `(tactic| k_all) => `(tactic| first | with_reducible assumption | exact ne_of_ltAll (by assumption) | exact ne_of_allLt (by assumption) | fail "k_all")
local macro_rules | `(tactic| k_allIn) => `(tactic| (intro p hp; k_ownIn))
local macro_rules | `(tactic| walk_at "exec While") => `(tactic| refine stop_out ?_)
local macro_rules | `(tactic| walk_at "pyIter ref") => `(tactic| refine stop_out ?_)
local macro_rules | `(tactic| walk_at "call builtin:list.append") => `(tactic| (k_dflt (refine' my_append ?k1 ?k2 ?k3 ?z ?_; (case k1 => k_asm); (case k2 => k_asm); (case k3 => k_upd); (case z => (simp only [sizeLine_eq]; omega)); k_whole); intro h' F' N'; (try k_sweep)))
local macro_rules | `(tactic| walk_at "call builtin:list.reverse") => `(tactic| (k_dflt (refine' my_reverse ?k1 ?k2 ?k3 ?z ?_; (case k1 => k_asm); (case k2 => k_asm); (case k3 => k_upd); (case z => (simp only [sizeLine_eq]; omega)); k_whole); intro h' F' N'; (try k_sweep)))
local macro_rules | `(tactic| walk_at "call builtin:len") => `(tactic| (k_dflt (refine' my_len ?k1 ?k2 ?k3 ?z ?_; (case k1 => k_asm); (case k2 => k_mem); (case k3 => k_asm); (case z => omega); k_whole)))
local macro_rules | `(tactic| walk_at "exec For Name Name cons nil") => `(tactic| ((rename Fr _ _ _ _ => lF'); (with_unfolding_all refine' For_invVF lF' ?k1 ?k2 ?_; (case k1 => exact rfl); (case k2 => exact rfl); k_whole)))
local macro_rules | `(tactic| walk_at "exec For Name Call cons nil") => `(tactic| ((rename Fr _ _ _ _ => lF'); (with_unfolding_all refine' For_invVF lF' ?k1 ?k2 ?_; (case k1 => exact rfl); (case k2 => exact rfl); k_whole)))
local macro_rules | `(tactic| walk_at "inplaceOp LShift int int") => `(tactic| (dsimp only; refine ilshift_int_small (by decide) (by decide) (by omega) ?_))
local macro_rules | `(tactic| walk_at "binaryOp LShift int int") => `(tactic| (dsimp only; first | refine lshift_int (by decide) (by assumption) ?_ | refine lshift_int_small (by decide) (by decide) (by omega) ?_))
local macro_rules | `(tactic| walk_at "call ref") => `(tactic| (k_here; k_dflt (first
  | (refine' call_cls ?k1 ?k2 ?k3 ?k4 ?k5 ?k6 ?_; (case k1 => k_asm); (case k2 => k_asm); (case k3 => k_asm); (case k4 => k_is); (case k5 => k_is); (case k6 => k_is); k_whole; intro x' d' h' F' N' l1 l2; (try k_lt l1); (try k_lt2 l2); (try k_sweep); (refine' code_def ?k1 ?k2 ?k3 ?k4 ?k5 ?kA ?kF ?kK ?k6 ?k7 ?k8 ?k9 ?kB ?_ ?c2 ?c3 ?c4 ?c5; (case kA => exact rfl); (case kF => exact rfl); (case kK => first | assumption | exact rfl); (case k1 => k_asm); (case k2 => k_asm); (case k3 => k_asm); (case k4 => k_asm); (case k5 => k_asm); (case k6 => k_is); (case k7 => k_is); (case k8 => ((try simp only [mark_depth]); ktr_room)); (case k9 => first | exact BindsTo.of_eq rfl | exact binds_K (by k_in) rfl (by k_is) rfl rfl rfl); (case c5 => decide); (case kB => exact locs rfl); (case c2 => exact rfl); (case c3 => exact rfl); (case c4 => exact rfl); k_whole; intro g' L' h' FG' F' N' B' X' T'; (try dsimp only); (try k_fold)))
  | (refine wpAny_call ?_; (refine' code_def ?k1 ?k2 ?k3 ?k4 ?k5 ?kA ?kF ?kK ?k6 ?k7 ?k8 ?k9 ?kB ?_ ?c2 ?c3 ?c4 ?c5; (case kA => exact rfl); (case kF => exact rfl); (case kK => first | assumption | exact rfl); (case k1 => k_asm); (case k2 => k_asm); (case k3 => k_asm); (case k4 => k_asm); (case k5 => k_asm); (case k6 => k_is); (case k7 => k_is); (case k8 => ((try simp only [mark_depth]); ktr_room)); (case k9 => first | exact BindsTo.of_eq rfl | exact binds_K (by k_in) rfl (by k_is) rfl rfl rfl); (case c5 => decide); (case kB => exact locs rfl); (case c2 => exact rfl); (case c3 => exact rfl); (case c4 => exact rfl); k_whole; intro g' L' h' FG' F' N' B' X' T'; (try dsimp only); (try k_fold))))))
local macro_rules | `(tactic| walk_at "compareOp Eq ref ref") => `(tactic| (k_dflt (refine' my_eq ?k1 ?k2 ?k3 ?k4 ?k5 ?k6 ?_; (case k1 => k_asm); (case k2 => k_mem); (case k3 => k_mem); (case k4 => first | exact .nil | k_asm); (case k5 => first | exact .nil | k_asm); (case k6 => ktr_units); k_whole)))
local macro_rules | `(tactic| walk_at "compareOp NotEq ref ref") => `(tactic| (k_dflt (refine' my_ne ?k1 ?k2 ?k3 ?k4 ?k5 ?k6 ?_; (case k1 => k_asm); (case k2 => k_mem); (case k3 => k_mem); (case k4 => first | exact .nil | k_asm); (case k5 => first | exact .nil | k_asm); (case k6 => ktr_units); k_whole)))
set_option maxRecDepth 100000 in
set_option maxHeartbeats 8000000 in
theorem ref_con (w : World) (x : Int) (t : Tok) (news : List (Addr × Obj)) (hx : x < 0) : ConS w 113 [.int x t] news 3 (fun h₀ L m s Q E => 
   ∀ h' tk', Fr h₀ L h' m → News h₀ L h' news → Q (.bool true) { s with heap := h', toks := tk' }) := by
  unfold ConS
  k_fill
  w_on
  intro mean mg mb dp un gd cn cs a ccd cl A₀ base h₀ L m s Q E B XB TB F X N T hk hd hu hret
  w_strict (refine wpAny_call ?_; k_dflt ((refine' my_enterS ?k1 ?k2 ?k3 ?k4 ?k5 ?kA ?kF ?kK ?k6 ?k7 ?k8 ?k9 ?kB ?_ ?c2 ?c3 ?c4 ?c5; (case kA => exact rfl); (case kF => exact rfl); (case kK => first | assumption | exact rfl); (case k1 => k_asm); (case k2 => k_asm); (case k3 => k_asm); (case k4 => k_asm); (case k5 => k_asm); (case k6 => k_is); (case k7 => k_is); (case k8 => ktr_room); (case k9 => exact BindsTo.of_eq rfl); (case c5 => decide); (case kB => exact locs rfl); (case c2 => exact rfl); (case c3 => exact rfl); (case c4 => exact rfl); k_whole; intro g' L' h' FG' F' N' B' X' T' D'; (try dsimp only); (try k_fold))))
  w_strict k_steps
  rename Fr h₀ L _ m => F7
  rename News h₀ L _ _ => N7
  exact hret _ _ F7 N7
end Mine
namespace Mine
local macro_rules | `(tactic| k_all) => `(tactic| first | with_reducible assumption | exact ne_of_ltAll (by assumption) | exact ne_of_allLt (by assumption) | fail "k_all")
local macro_rules | `(tactic| k_allIn) => `(tactic| (intro p hp; k_ownIn))
local macro_rules | `(tactic| walk_at "exec While") => `(tactic| refine stop_out ?_)
local macro_rules | `(tactic| walk_at "pyIter ref") => `(tactic| refine stop_out ?_)
local macro_rules | `(tactic| walk_at "call builtin:list.append") => `(tactic| (k_dflt (refine' my_append ?k1 ?k2 ?k3 ?z ?_; (case k1 => k_asm); (case k2 => k_asm); (case k3 => k_upd); (case z => (simp only [sizeLine_eq]; omega)); k_whole); intro h' F' N'; (try k_sweep)))
local macro_rules | `(tactic| walk_at "call builtin:list.reverse") => `(tactic| (k_dflt (refine' my_reverse ?k1 ?k2 ?k3 ?z ?_; (case k1 => k_asm); (case k2 => k_asm); (case k3 => k_upd); (case z => (simp only [sizeLine_eq]; omega)); k_whole); intro h' F' N'; (try k_sweep)))
local macro_rules | `(tactic| walk_at "call builtin:len") => `(tactic| (k_dflt (refine' my_len ?k1 ?k2 ?k3 ?z ?_; (case k1 => k_asm); (case k2 => k_mem); (case k3 => k_asm); (case z => omega); k_whole)))
local macro_rules | `(tactic| walk_at "exec For Name Name cons nil") => `(tactic| ((rename Fr _ _ _ _ => lF'); (with_unfolding_all refine' For_invVF lF' ?k1 ?k2 ?_; (case k1 => exact rfl); (case k2 => exact rfl); k_whole)))
local macro_rules | `(tactic| walk_at "exec For Name Call cons nil") => `(tactic| ((rename Fr _ _ _ _ => lF'); (with_unfolding_all refine' For_invVF lF' ?k1 ?k2 ?_; (case k1 => exact rfl); (case k2 => exact rfl); k_whole)))
local macro_rules | `(tactic| walk_at "inplaceOp LShift int int") => `(tactic| (dsimp only; refine ilshift_int_small (by decide) (by decide) (by omega) ?_))
local macro_rules | `(tactic| walk_at "binaryOp LShift int int") => `(tactic| (dsimp only; refine lshift_int_small (by decide) (by decide) (by omega) ?_))
local macro_rules | `(tactic| walk_at "call ref") => `(tactic| (k_here; k_dflt (first
  | (refine' call_cls ?k1 ?k2 ?k3 ?k4 ?k5 ?k6 ?_; (case k1 => k_asm); (case k2 => k_asm); (case k3 => k_asm); (case k4 => k_is); (case k5 => k_is); (case k6 => k_is); k_whole; intro x' d' h' F' N' l1 l2; (try k_lt l1); (try k_lt2 l2); (try k_sweep); (refine' code_def ?k1 ?k2 ?k3 ?k4 ?k5 ?kA ?kF ?kK ?k6 ?k7 ?k8 ?k9 ?kB ?_ ?c2 ?c3 ?c4 ?c5; (case kA => exact rfl); (case kF => exact rfl); (case kK => first | assumption | exact rfl); (case k1 => k_asm); (case k2 => k_asm); (case k3 => k_asm); (case k4 => k_asm); (case k5 => k_asm); (case k6 => k_is); (case k7 => k_is); (case k8 => ktr_room); (case k9 => first | exact BindsTo.of_eq rfl | exact binds_K (by k_in) rfl (by k_is) rfl rfl rfl); (case c5 => decide); (case kB => exact locs rfl); (case c2 => exact rfl); (case c3 => exact rfl); (case c4 => exact rfl); k_whole; intro g' L' h' FG' F' N' B' X' T'; (try dsimp only); (try k_fold)))
  | (refine wpAny_call ?_; (refine' code_def ?k1 ?k2 ?k3 ?k4 ?k5 ?kA ?kF ?kK ?k6 ?k7 ?k8 ?k9 ?kB ?_ ?c2 ?c3 ?c4 ?c5; (case kA => exact rfl); (case kF => exact rfl); (case kK => first | assumption | exact rfl); (case k1 => k_asm); (case k2 => k_asm); (case k3 => k_asm); (case k4 => k_asm); (case k5 => k_asm); (case k6 => k_is); (case k7 => k_is); (case k8 => ktr_room); (case k9 => first | exact BindsTo.of_eq rfl | exact binds_K (by k_in) rfl (by k_is) rfl rfl rfl); (case c5 => decide); (case kB => exact locs rfl); (case c2 => exact rfl); (case c3 => exact rfl); (case c4 => exact rfl); k_whole; intro g' L' h' FG' F' N' B' X' T'; (try dsimp only); (try k_fold))))))
set_option maxRecDepth 100000 in
set_option maxHeartbeats 8000000 in
theorem rd_con (w : World) (x d D : Addr) (p k : Nat) (t1 t2 tp tk : Tok) (vs : List Value) (os : List Int) (c : Nat) (news : List (Addr × Obj)) (hvs : IntsAre vs os) (hlen : os.length ≤ 1000) (hp : p ≤ os.length) (hk9 : k ≤ 100)
    (hne : ∀ q ∈ news, q.1 ≠ d) (hdx : d ≠ x) (hdD : d ≠ D) : Con w 64 [.ref x, .int k tk] ((x, instObj 81 d) :: (d, fileD w D p t1 t2 tp) :: (D, listOf vs.toArray c) :: news) 1 (fun h₀ L m s Q E => 
   ∀ l bs h' tk' tp', Fr h₀ L h' m → News h₀ L h' ((l, listOf bs.toArray 0) :: (x, instObj 81 d) :: (d, fileD w D (p + ((os.drop p).take k).length : Nat) t1 t2 tp') :: (D, listOf vs.toArray c) :: news) →
     x < l ∧ d < l ∧ D < l ∧ (∀ q ∈ news, q.1 < l) → IntsAre bs ((os.drop p).take k) → Q (.ref l) { s with heap := h', toks := tk' }) := by
  unfold Con
  k_fill
  w_on
  intro mean mg mb dp un gd cn cs a ccd cl outer A₀ base h₀ L m s Q E B F X N T hk hd hu hret
  have hvl := hvs.length
  replace hdx := neN hdx
  replace hdD := neN hdD
  w_strict (refine wpAny_call ?_; k_dflt ktr_enter; k_steps)
  rename Fr h₀ L _ m => F7
  rename News h₀ L _ _ => N7
  rename IntsAre _ (List.take _ _) => hi7
  rename (_ < _ ∧ _ < _ ∧ _) => l7
  rw [slice_is] at hi7
  rw [slice_is, ← Int.natCast_add] at N7
  exact hret _ _ _ _ _ F7 N7 ⟨l7.1, l7.2.1, l7.2.2.1, kst_ltOf l7.2.2.2⟩ hi7
end Mine
namespace Mine
local macro_rules | `(tactic| k_all) => `(tactic| first | with_reducible assumption | exact ne_of_ltAll (by assumption) | exact ne_of_allLt (by assumption) | fail "k_all")
local macro_rules | `(tactic| k_allIn) => `(tactic| (intro p hp; k_ownIn))
local macro_rules | `(tactic| walk_at "exec While") => `(tactic| refine stop_out ?_)
local macro_rules | `(tactic| walk_at "pyIter ref") => `(tactic| refine stop_out ?_)
local macro_rules | `(tactic| walk_at "call builtin:list.append") => `(tactic| (k_dflt (refine' my_append ?k1 ?k2 ?k3 ?z ?_; (case k1 => k_asm); (case k2 => k_asm); (case k3 => k_upd); (case z => (simp only [sizeLine_eq]; omega)); k_whole); intro h' F' N'; (try k_sweep)))
local macro_rules | `(tactic| walk_at "call builtin:list.reverse") => `(tactic| (k_dflt (refine' my_reverse ?k1 ?k2 ?k3 ?z ?_; (case k1 => k_asm); (case k2 => k_asm); (case k3 => k_upd); (case z => (simp only [sizeLine_eq]; omega)); k_whole); intro h' F' N'; (try k_sweep)))
local macro_rules | `(tactic| walk_at "call builtin:len") => `(tactic| (k_dflt (refine' my_len ?k1 ?k2 ?k3 ?z ?_; (case k1 => k_asm); (case k2 => k_mem); (case k3 => k_asm); (case z => omega); k_whole)))
local macro_rules | `(tactic| walk_at "exec For Name Name cons nil") => `(tactic| ((rename Fr _ _ _ _ => lF'); (with_unfolding_all refine' For_invVF lF' ?k1 ?k2 ?_; (case k1 => exact rfl); (case k2 => exact rfl); k_whole)))
local macro_rules | `(tactic| walk_at "exec For Name Call cons nil") => `(tactic| ((rename Fr _ _ _ _ => lF'); (with_unfolding_all refine' For_invVF lF' ?k1 ?k2 ?_; (case k1 => exact rfl); (case k2 => exact rfl); k_whole)))
local macro_rules | `(tactic| walk_at "inplaceOp LShift int int") => `(tactic| (dsimp only; refine ilshift_int_small (by decide) (by decide) (by omega) ?_))
local macro_rules | `(tactic| walk_at "binaryOp LShift int int") => `(tactic| (dsimp only; first | refine lshift_int (by decide) (by assumption) ?_ | refine lshift_int_small (by decide) (by decide) (by omega) ?_))
local macro_rules | `(tactic| walk_at "call ref") => `(tactic| (k_here; k_dflt (first
  | (refine' call_cls ?k1 ?k2 ?k3 ?k4 ?k5 ?k6 ?_; (case k1 => k_asm); (case k2 => k_asm); (case k3 => k_asm); (case k4 => k_is); (case k5 => k_is); (case k6 => k_is); k_whole; intro x' d' h' F' N' l1 l2; (try k_lt l1); (try k_lt2 l2); (try k_sweep); (refine' code_def ?k1 ?k2 ?k3 ?k4 ?k5 ?kA ?kF ?kK ?k6 ?k7 ?k8 ?k9 ?kB ?_ ?c2 ?c3 ?c4 ?c5; (case kA => exact rfl); (case kF => exact rfl); (case kK => first | assumption | exact rfl); (case k1 => k_asm); (case k2 => k_asm); (case k3 => k_asm); (case k4 => k_asm); (case k5 => k_asm); (case k6 => k_is); (case k7 => k_is); (case k8 => ((try simp only [mark_depth]); ktr_room)); (case k9 => first | exact BindsTo.of_eq rfl | exact binds_K (by k_in) rfl (by k_is) rfl rfl rfl); (case c5 => decide); (case kB => exact locs rfl); (case c2 => exact rfl); (case c3 => exact rfl); (case c4 => exact rfl); k_whole; intro g' L' h' FG' F' N' B' X' T'; (try dsimp only); (try k_fold)))
  | (refine wpAny_call ?_; (refine' code_def ?k1 ?k2 ?k3 ?k4 ?k5 ?kA ?kF ?kK ?k6 ?k7 ?k8 ?k9 ?kB ?_ ?c2 ?c3 ?c4 ?c5; (case kA => exact rfl); (case kF => exact rfl); (case kK => first | assumption | exact rfl); (case k1 => k_asm); (case k2 => k_asm); (case k3 => k_asm); (case k4 => k_asm); (case k5 => k_asm); (case k6 => k_is); (case k7 => k_is); (case k8 => ((try simp only [mark_depth]); ktr_room)); (case k9 => first | exact BindsTo.of_eq rfl | exact binds_K (by k_in) rfl (by k_is) rfl rfl rfl); (case c5 => decide); (case kB => exact locs rfl); (case c2 => exact rfl); (case c3 => exact rfl); (case c4 => exact rfl); k_whole; intro g' L' h' FG' F' N' B' X' T'; (try dsimp only); (try k_fold))))))
local macro_rules | `(tactic| walk_at "compareOp Eq ref ref") => `(tactic| (k_dflt (refine' my_eq ?k1 ?k2 ?k3 ?k4 ?k5 ?k6 ?_; (case k1 => k_asm); (case k2 => k_mem); (case k3 => k_mem); (case k4 => first | exact .nil | k_asm); (case k5 => first | exact .nil | k_asm); (case k6 => ktr_units); k_whole)))
local macro_rules | `(tactic| walk_at "compareOp NotEq ref ref") => `(tactic| (k_dflt (refine' my_ne ?k1 ?k2 ?k3 ?k4 ?k5 ?k6 ?_; (case k1 => k_asm); (case k2 => k_mem); (case k3 => k_mem); (case k4 => first | exact .nil | k_asm); (case k5 => first | exact .nil | k_asm); (case k6 => ktr_units); k_whole)))
local macro_rules | `(tactic| walk_at "call ref") => `(tactic| ((show wpAny _ _ (call (Value.ref 64) _) _ _ _); refine stop_out ?_))
def RdJ (w : World) (ns : List Nat) (lf x d D : Addr) (t1 t2 : Tok) (vs : List Value) (c : Nat) (rest : List (Addr × Obj)) (k : Nat) (m : Str → Option Value) (nx : List (Addr × Obj)) : Prop :=
  ∃ (fs : List Value) (cf : Nat) (tp : Tok), m (Str.ofString "found") = some (.ref lf) ∧ m (Str.ofString "infile") = some (.ref x) ∧
    nx = (lf, listOf fs.toArray cf) :: (D, listOf vs.toArray c) :: (x, instObj 81 d) :: (d, fileD w D (pos ns k) t1 t2 tp) :: rest ∧ IntsAre fs ((ns.take k).map Int.ofNat) ∧ k ≤ ns.length
def RdW (w : World) (os : List Int) (X : Option (Int × Nat)) (x d D : Addr) (t1 t2 : Tok) (l1 l2 : List (Addr × Obj)) (n : Nat) (m : Str → Option Value) (nx : List (Addr × Obj)) : Prop :=
  ∃ (q : Nat) (dl : Int) (td tp : Tok), n = os.length - q ∧ m (Str.ofString "infile") = some (.ref x) ∧ m (Str.ofString "delta") = some (.int dl td) ∧
    nx = l1 ++ (d, fileD w D q t1 t2 tp) :: l2 ∧ q ≤ os.length ∧ rdAt dl q os = X ∧ 0 ≤ dl ∧ dl.natAbs < 2 ^ (7 * q)
set_option maxRecDepth 100000 in
set_option maxHeartbeats 8000000 in
theorem read_con (w : World) (lo : Addr) (vs : List Value) (ns : List Nat) (part : List Int) (c : Nat) (news : List (Addr × Obj)) (hvs : IntsAre vs (encs ns ++ part)) (hpart : ∀ b ∈ part, 128 ≤ b) (hlt : ∀ q ∈ news, q.1 < lo) (hlen : (encs ns ++ part).length ≤ 1000) : ConS w 120 [.ref lo] ((lo, listOf vs.toArray c) :: news) 5 (fun h₀ L m s Q E => 
   ∀ t lf fs cf h' tk' tp, Fr h₀ L h' m → News h₀ L h' ((t, { cls := .type "tuple", data := .seq #[.ref lf, .int ((encs ns ++ part).length : Nat) tp] }) :: (lf, listOf fs.toArray cf) :: (lo, listOf vs.toArray c) :: news) →
     lo < lf → lf < t → (∀ q ∈ news, q.1 < lf) → IntsAre fs (ns.map Int.ofNat) → Q (.ref t) { s with heap := h', toks := tk' }) := by
  generalize hos : encs ns ++ part = os at hvs hlen
  unfold ConS
  k_fill
  w_on
  intro mean mg mb dp un gd cn cs a ccd cl A₀ base h₀ L m s Q E B XB TB F X N T hk hd hu hret
  have hvl := hvs.length
  w_strict (refine wpAny_call ?_; k_dflt ((refine' my_enterS ?k1 ?k2 ?k3 ?k4 ?k5 ?kA ?kF ?kK ?k6 ?k7 ?k8 ?k9 ?kB ?_ ?c2 ?c3 ?c4 ?c5; (case kA => exact rfl); (case kF => exact rfl); (case kK => first | assumption | exact rfl); (case k1 => k_asm); (case k2 => k_asm); (case k3 => k_asm); (case k4 => k_asm); (case k5 => k_asm); (case k6 => k_is); (case k7 => k_is); (case k8 => ktr_room); (case k9 => exact BindsTo.of_eq rfl); (case c5 => decide); (case kB => exact locs rfl); (case c2 => exact rfl); (case c3 => exact rfl); (case c4 => exact rfl); k_whole; intro g' L' h' FG' F' N' B' X' T' D'; (try dsimp only); (try k_fold))))
  w_strict k_steps
  refine stop_in ?_
  rename IsRange _ _ _ _ _ _ _ _ => hR
  rename News _ _ _ _ => NN
  rename Fr _ _ _ _ => FF
  rename (lo < _ ∧ AllLt _ news) => l4
  obtain ⟨lf, D, x, d, rfl, rfl, rfl, rfl⟩ := led4 NN
  rename (d < x) => l5
  rename (D < lf ∧ _) => l6
  rename (x < D ∧ _) => l7
  have hnd := ne_of_allLt l4.2
  have a1 := ltN l4.1
  have a2 := ltN l5
  have a3 := ltN l6.1
  have a4 := ltN l7.1
  refine for_range (n := os.length + 1) (RdJ w ns lf x d D _ _ _ _ _) rfl hR (small_one (by omega) (by omega) (by omega) (by omega)) (by rw [rangeSize_nat]; omega) FF NN ⟨_, _, _, if_pos rfl, by with_unfolding_all rfl, rfl, .nil, Nat.zero_le _⟩ ?_ ?_
  · rintro i ti m₂ news₂ h₂ tk₂ I oI hi ⟨fs, cf, tp, hm1, hm2, rfl, hfs, hin⟩ hne F₅ N₅
    have F₆ := fr_top [(Str.ofString "found", _), (Str.ofString "infile", _)] F₅ (see2 hm1 hm2)
    clear F₅
    have b1 : @Ne Nat lf I := hne _ (.head _)
    have b2 : @Ne Nat D I := hne _ (.tail _ (.head _))
    have b3 : @Ne Nat x I := hne _ (.tail _ (.tail _ (.head _)))
    have b4 : @Ne Nat d I := hne _ (.tail _ (.tail _ (.tail _ (.head _))))
    w_strict ((try k_fold); k_steps)
    refine stop_in ?_
    rename News _ _ _ _ => N8
    rename Fr _ _ _ (fun y => if y = Str.ofString "delta" then _ else _) => F8
    refine While_inv2 (RdW w os (rdAt 0 (pos ns i) os) x d D _ _ [(I, oI), (lf, listOf fs.toArray cf), (D, _), (x, _)] ((lo, _) :: news)) F8 N8 (n₀ := os.length - pos ns i) ⟨pos ns i, 0, _, _, rfl, by with_unfolding_all rfl, if_pos rfl, rfl, ?_, rfl, by decide, Nat.pow_pos (by decide)⟩ ?_
    · rw [← hos, List.length_append]; exact Nat.le_trans (pos_le ns i) (Nat.le_add_right _ _)
    rintro n m₃ news₃ h₃ tk₃ F₉ N₉ ⟨q, dl, td, tq, rfl, hm3, hm4, rfl, hq, hX, hdl, hdb⟩
    have F₁₀ := fr_see [(Str.ofString "infile", .ref x), (Str.ofString "delta", .int dl td)] F₉ (see2 hm3 hm4)
    simp only [List.cons_append, List.nil_append] at N₉
    clear F₉ F8 N8
    w_strict ((try k_fold); k_steps)
    refine stop_in ?_
    rename News _ _ _ _ => N10
    have hne' : ∀ p ∈ (I, oI) :: (lf, listOf fs.toArray cf) :: (lo, listOf vs.toArray c) :: news, p.1 ≠ d :=
      List.forall_mem_cons.mpr ⟨fun h => b4 h.symm, List.forall_mem_cons.mpr ⟨Nat.ne_of_gt (by omega), List.forall_mem_cons.mpr ⟨Nat.ne_of_lt a1, hnd⟩⟩⟩
    refine' con_use (rd_con w x d D q 1 _ _ tq _ vs os _ _ (by assumption) hlen hq (by decide) hne' (Nat.ne_of_lt a2) (Nat.ne_of_lt (by omega))) ?B ?F ?X (kst_newsOf N10 ?N) ?T ?K ?d ?u ?_
    case N => k_allIn
    case B => k_asm
    case F => k_asm
    case X => k_asm
    case T => k_asm
    case K => first | assumption | exact rfl
    case d => ktr_room
    case u => ktr_units
    clear N10
    intro l bs h₅ tk₅ tp₅ F₁₁ N₁₁ hl5 hbs
    k_sweep
    have hnlf := ne_of_allLt l6.2.2.2.2
    have c1 : @LT.lt Nat _ lf l := hl5.2.2.2 _ (.tail _ (.head _))
    have c2 : @LT.lt Nat _ I l := hl5.2.2.2 _ (.head _)
    have hbits : ((Builtin.Int.intBits dl : Nat) : Int) + 7 ≤ 2 ^ 27 := by
      have := intBits_le_iff.mpr hdb
      omega
    have hfl : fs.length ≤ 1000 := by
      have h1 := hfs.length
      rw [List.length_map, List.length_take] at h1
      have h2 := pos_ge ns
      have h3 : os.length = (encs ns).length + part.length := by rw [← hos, List.length_append]
      omega
    try k_fold
    w_strict k_steps
    · -- the octets end: found, and the place
      dsimp only [FPost]
      w_strict k_steps
      rename decide (List.take 1 (List.drop q os) = []) = true => hb
      have hq' := byte_none hb
      have eq' : q = os.length := by omega
      rw [rdAt_end hq'] at hX
      have ei := rd_stops hos hin hX.symm
      rename Fr h₀ L _ m => F12
      rename News h₀ L _ _ => N12
      rename (_ < _ ∧ _ < _ ∧ _ < _ ∧ _ < _ ∧ _ < _ ∧ _ < _ ∧ _) => l12
      rw [of_decide_eq_true hb, List.length_nil, Nat.add_zero, eq'] at N12
      rw [ei, List.take_length] at hfs
      refine hret _ _ _ _ _ _ _ F12 (kst_newsOf N12 (by k_allIn)) l6.2.2.2.1 l12.2.2.2.2.2.2.1 (kst_ltOf l6.2.2.2.2) hfs
    · -- a number read
      dsimp only [WhileStep2]
      w_strict k_steps
      rename decide (List.take 1 (List.drop q os) = []) = false => hb
      rename (List.getD _ _ _ < 128) => hge
      obtain ⟨b, hb1, hb2⟩ := byte_at hb
      have hge' : b < 128 := by rw [hb2] at hge; exact hge
      rw [rdAt_stop hb1 hge'] at hX
      obtain ⟨hi2, hv, hj⟩ := rd_last hos hpart hin hX.symm
      rename News _ _ _ _ => N12
      rename Fr _ _ _ (fun y => _) => F12
      rw [place_one hb2, hj] at N12
      have e7 : (ns.take (i + 1)).map Int.ofNat = (ns.take i).map Int.ofNat ++ [((ns[i] : Nat) : Int)] := by
        rw [← List.take_append_getElem hi2, List.map_append]
        rfl
      have e8 := (byte_val (dl := dl) hb2).trans hv
      refine' fend ((lf, listOf (fs ++ [?V]).toArray (cf + 1)) :: (D, _) :: (x, instObj 81 d) :: (d, fileD w D (pos ns (i + 1)) _ _ tp₅) :: (lo, listOf vs.toArray c) :: news) F12 N12 ?hs ?ha ⟨fs ++ [?V], cf + 1, tp₅, ?f1, ?f2, rfl, ?i, hi2⟩
      case hs => (simp only [List.cons_append, List.nil_append]; k_allIn)
      case ha => exact List.forall_mem_cons.mpr ⟨b1, List.forall_mem_cons.mpr ⟨b2, List.forall_mem_cons.mpr ⟨b3, List.forall_mem_cons.mpr ⟨b4, fun p hp => hne p (.tail _ (.tail _ (.tail _ (.tail _ hp))))⟩⟩⟩⟩
      case f1 => exact (if_neg (by decide)).trans (by with_unfolding_all rfl)
      case f2 => exact (if_neg (by decide)).trans (by with_unfolding_all rfl)
      case i => rw [e7, ← e8]; exact hfs.append (.cons _ _ .nil)
    · rename News _ _ _ _ => N12
      rename Fr _ _ _ (fun y => _) => F12
      rename decide (List.take 1 (List.drop q os) = []) = false => hb
      rename ¬ (_ < 128) => hge
      obtain ⟨b, hb1, hb2⟩ := byte_at hb
      have hge' : ¬ b < 128 := by rw [hb2] at hge; exact hge
      obtain ⟨g1, g2⟩ := grow (b := b) hdl hdb
      obtain ⟨hql, _⟩ := List.getElem?_eq_some_iff.mp hb1
      rw [place_one hb2] at N12
      refine' ⟨_, _, _, [(I, oI), (lf, listOf fs.toArray cf), (D, _), (x, _)] ++ (d, fileD w D (q + 1 : Nat) _ _ _) :: (lo, listOf vs.toArray c) :: news, os.length - (q + 1), rfl, F12, kst_newsOf N12 ?hs, ?lt, q + 1, dl * 128 + b % 128, _, _, rfl, ?f1, ?f2, rfl, ?q, ?X, g1, g2⟩
      case hs => (simp only [List.cons_append, List.nil_append]; k_allIn)
      case lt => omega
      case f1 => exact (if_neg (by decide)).trans ((if_neg (by decide)).trans (by with_unfolding_all rfl))
      case f2 => exact (if_pos rfl).trans (by rw [byte_val hb2])
      case q => omega
      case X => exact (rdAt_on hb1 hge').symm.trans hX
  · rintro m₂ nx h₂ tk₂ ⟨fs, cf, tp, hm1, hm2, rfl, hfs, hin⟩ F₅ N₅
    have h2 := pos_ge ns
    have h3 : os.length = (encs ns).length + part.length := by rw [← hos, List.length_append]
    omega
end Mine
namespace Mine
local macro_rules | `(tactic| k_all) => `(tactic| first | with_reducible assumption | exact ne_of_ltAll (by assumption) | exact ne_of_allLt (by assumption) | fail "k_all")
local macro_rules | `(tactic| k_allIn) => `(tactic| (intro p hp; k_ownIn))
local macro_rules | `(tactic| walk_at "exec While") => `(tactic| refine stop_out ?_)
local macro_rules | `(tactic| walk_at "pyIter ref") => `(tactic| refine stop_out ?_)
local macro_rules | `(tactic| walk_at "call builtin:list.append") => `(tactic| (k_dflt (refine' my_append ?k1 ?k2 ?k3 ?z ?_; (case k1 => k_asm); (case k2 => k_asm); (case k3 => k_upd); (case z => (simp only [sizeLine_eq]; omega)); k_whole); intro h' F' N'; (try k_sweep)))
local macro_rules | `(tactic| walk_at "call builtin:list.reverse") => `(tactic| (k_dflt (refine' my_reverse ?k1 ?k2 ?k3 ?z ?_; (case k1 => k_asm); (case k2 => k_asm); (case k3 => k_upd); (case z => (simp only [sizeLine_eq]; omega)); k_whole); intro h' F' N'; (try k_sweep)))
local macro_rules | `(tactic| walk_at "call builtin:len") => `(tactic| (k_dflt (refine' my_len ?k1 ?k2 ?k3 ?z ?_; (case k1 => k_asm); (case k2 => k_mem); (case k3 => k_asm); (case z => omega); k_whole)))
local macro_rules | `(tactic| walk_at "exec For Name Name cons nil") => `(tactic| ((rename Fr _ _ _ _ => lF'); (with_unfolding_all refine' For_invVF lF' ?k1 ?k2 ?_; (case k1 => exact rfl); (case k2 => exact rfl); k_whole)))
local macro_rules | `(tactic| walk_at "exec For Name Call cons nil") => `(tactic| ((rename Fr _ _ _ _ => lF'); (with_unfolding_all refine' For_invVF lF' ?k1 ?k2 ?_; (case k1 => exact rfl); (case k2 => exact rfl); k_whole)))
local macro_rules | `(tactic| walk_at "inplaceOp LShift int int") => `(tactic| (dsimp only; refine ilshift_int_small (by decide) (by decide) (by omega) ?_))
local macro_rules | `(tactic| walk_at "binaryOp LShift int int") => `(tactic| (dsimp only; first | refine lshift_int (by decide) (by assumption) ?_ | refine lshift_int_small (by decide) (by decide) (by omega) ?_))
local macro_rules | `(tactic| walk_at "call ref") => `(tactic| (k_here; k_dflt (first
  | (refine' call_cls ?k1 ?k2 ?k3 ?k4 ?k5 ?k6 ?_; (case k1 => k_asm); (case k2 => k_asm); (case k3 => k_asm); (case k4 => k_is); (case k5 => k_is); (case k6 => k_is); k_whole; intro x' d' h' F' N' l1 l2; (try k_lt l1); (try k_lt2 l2); (try k_sweep); (refine' code_def ?k1 ?k2 ?k3 ?k4 ?k5 ?kA ?kF ?kK ?k6 ?k7 ?k8 ?k9 ?kB ?_ ?c2 ?c3 ?c4 ?c5; (case kA => exact rfl); (case kF => exact rfl); (case kK => first | assumption | exact rfl); (case k1 => k_asm); (case k2 => k_asm); (case k3 => k_asm); (case k4 => k_asm); (case k5 => k_asm); (case k6 => k_is); (case k7 => k_is); (case k8 => ((try simp only [mark_depth]); ktr_room)); (case k9 => first | exact BindsTo.of_eq rfl | exact binds_K (by k_in) rfl (by k_is) rfl rfl rfl); (case c5 => decide); (case kB => exact locs rfl); (case c2 => exact rfl); (case c3 => exact rfl); (case c4 => exact rfl); k_whole; intro g' L' h' FG' F' N' B' X' T'; (try dsimp only); (try k_fold)))
  | (refine wpAny_call ?_; (refine' code_def ?k1 ?k2 ?k3 ?k4 ?k5 ?kA ?kF ?kK ?k6 ?k7 ?k8 ?k9 ?kB ?_ ?c2 ?c3 ?c4 ?c5; (case kA => exact rfl); (case kF => exact rfl); (case kK => first | assumption | exact rfl); (case k1 => k_asm); (case k2 => k_asm); (case k3 => k_asm); (case k4 => k_asm); (case k5 => k_asm); (case k6 => k_is); (case k7 => k_is); (case k8 => ((try simp only [mark_depth]); ktr_room)); (case k9 => first | exact BindsTo.of_eq rfl | exact binds_K (by k_in) rfl (by k_is) rfl rfl rfl); (case c5 => decide); (case kB => exact locs rfl); (case c2 => exact rfl); (case c3 => exact rfl); (case c4 => exact rfl); k_whole; intro g' L' h' FG' F' N' B' X' T'; (try dsimp only); (try k_fold))))))
local macro_rules | `(tactic| walk_at "compareOp Eq ref ref") => `(tactic| (k_dflt (refine' my_eq ?k1 ?k2 ?k3 ?k4 ?k5 ?k6 ?_; (case k1 => k_asm); (case k2 => k_mem); (case k3 => k_mem); (case k4 => first | exact .nil | k_asm); (case k5 => first | exact .nil | k_asm); (case k6 => ktr_units); k_whole)))
local macro_rules | `(tactic| walk_at "compareOp NotEq ref ref") => `(tactic| (k_dflt (refine' my_ne ?k1 ?k2 ?k3 ?k4 ?k5 ?k6 ?_; (case k1 => k_asm); (case k2 => k_mem); (case k3 => k_mem); (case k4 => first | exact .nil | k_asm); (case k5 => first | exact .nil | k_asm); (case k6 => ktr_units); k_whole)))
local macro_rules | `(tactic| walk_at "call ref") => `(tactic| ((show wpAny _ _ (call (Value.ref 64) _) _ _ _); refine stop_out ?_))

def RvW (w : World) (os : List Int) (X : Option (Int × Nat)) (x d D : Addr) (t1 t2 : Tok) (l1 l2 : List (Addr × Obj)) (n : Nat) (m : Str → Option Value) (nx : List (Addr × Obj)) : Prop :=
  ∃ (q : Nat) (dl : Int) (td tp : Tok), n = os.length - q ∧ m (Str.ofString "infile") = some (.ref x) ∧ m (Str.ofString "delta") = some (.int dl td) ∧
    nx = l1 ++ (d, fileD w D q t1 t2 tp) :: l2 ∧ q ≤ os.length ∧ rdAt dl q os = X ∧ 0 ≤ dl ∧ dl.natAbs < 2 ^ (7 * q)
set_option maxRecDepth 100000 in
set_option maxHeartbeats 8000000 in
/-- a number that stands whole is read -/
theorem rv_con (w : World) (x d D : Addr) (p j : Nat) (v : Int) (t1 t2 tp : Tok) (vs : List Value) (os : List Int) (c : Nat) (news : List (Addr × Obj)) (hvs : IntsAre vs os) (hlen : os.length ≤ 1000) (hp : p ≤ os.length) (hX0 : rdAt 0 p os = some (v, j))
    (hne : ∀ q ∈ news, q.1 ≠ d) (hdx : d ≠ x) (hdD : d ≠ D) : Con w 99 [.ref x] ((x, instObj 81 d) :: (d, fileD w D p t1 t2 tp) :: (D, listOf vs.toArray c) :: news) 4 (fun h₀ L m s Q E => 
   ∀ tv h' tk' tp', Fr h₀ L h' m → News h₀ L h' ((x, instObj 81 d) :: (d, fileD w D j t1 t2 tp') :: (D, listOf vs.toArray c) :: news) → Q (.int v tv) { s with heap := h', toks := tk' }) := by
  unfold Con
  k_fill
  w_on
  intro mean mg mb dp un gd cn cs a ccd cl outer A₀ base h₀ L m s Q E B F X N T hk hd hu hret
  have hvl := hvs.length
  have a2 : @Ne Nat d x := hdx
  have a3 : @Ne Nat d D := hdD
  w_strict (refine wpAny_call ?_; k_dflt ktr_enter; k_steps)
  refine stop_in ?_
  rename News _ _ _ _ => N8
  rename Fr _ _ _ (fun y => if y = Str.ofString "delta" then _ else _) => F8
  refine While_inv2 (RvW w os (some (v, j)) x d D _ _ [(x, _)] ((D, _) :: news)) F8 N8 (n₀ := os.length - p) ⟨p, 0, _, _, rfl, by with_unfolding_all rfl, if_pos rfl, rfl, hp, hX0, by decide, Nat.pow_pos (by decide)⟩ ?_
  rintro n m₃ news₃ h₃ tk₃ F₉ N₉ ⟨q, dl, td, tq, rfl, hm3, hm4, rfl, hq, hX, hdl, hdb⟩
  have F₁₀ := fr_see [(Str.ofString "infile", .ref x), (Str.ofString "delta", .int dl td)] F₉ (see2 hm3 hm4)
  simp only [List.cons_append, List.nil_append] at N₉
  clear F₉ F8 N8
  w_strict ((try k_fold); k_steps)
  refine stop_in ?_
  rename News _ _ _ _ => N10
  refine' con_use (rd_con w x d D q 1 _ _ tq _ vs os _ news (by assumption) hlen hq (by decide) hne hdx hdD) ?B ?F ?X (kst_newsOf N10 ?N) ?T ?K ?d ?u ?_
  case N => k_allIn
  case B => k_asm
  case F => k_asm
  case X => k_asm
  case T => k_asm
  case K => first | assumption | exact rfl
  case d => ktr_room
  case u => ktr_units
  clear N10
  intro l bs h₅ tk₅ tp₅ F₁₁ N₁₁ hl5 hbs
  k_sweep
  have hbits : ((Builtin.Int.intBits dl : Nat) : Int) + 7 ≤ 2 ^ 27 := by
    have := intBits_le_iff.mpr hdb
    omega
  try k_fold
  w_strict k_steps
  · exfalso
    rename decide (List.take 1 (List.drop q os) = []) = true => hb
    rw [rdAt_end (byte_none hb)] at hX
    cases hX
  · dsimp only [WhileStep2]
    w_strict k_steps
    rename decide (List.take 1 (List.drop q os) = []) = false => hb
    rename (List.getD _ _ _ < 128) => hge
    obtain ⟨b, hb1, hb2⟩ := byte_at hb
    have hge' : b < 128 := by rw [hb2] at hge; exact hge
    rw [rdAt_stop hb1 hge'] at hX
    have hv : dl * 128 + b % 128 = v := congrArg Prod.fst (Option.some.inj hX)
    have hj : q + 1 = j := congrArg Prod.snd (Option.some.inj hX)
    rename News h₀ L _ _ => N12
    rename Fr h₀ L _ m => F12
    rw [place_one hb2, hj] at N12
    rw [byte_val hb2, hv]
    exact hret _ _ _ tp₅ F12 (kst_newsOf N12 (by k_allIn))
  · rename News _ _ _ _ => N12
    rename Fr _ _ _ (fun y => _) => F12
    rename decide (List.take 1 (List.drop q os) = []) = false => hb
    rename ¬ (_ < 128) => hge
    obtain ⟨b, hb1, hb2⟩ := byte_at hb
    have hge' : ¬ b < 128 := by rw [hb2] at hge; exact hge
    obtain ⟨g1, g2⟩ := grow (b := b) hdl hdb
    obtain ⟨hql, _⟩ := List.getElem?_eq_some_iff.mp hb1
    rw [place_one hb2] at N12
    refine' ⟨_, _, _, [(x, _)] ++ (d, fileD w D (q + 1 : Nat) _ _ _) :: (D, _) :: news, os.length - (q + 1), rfl, F12, kst_newsOf N12 ?hs, ?lt, q + 1, dl * 128 + b % 128, _, _, rfl, ?f1, ?f2, rfl, ?q, ?X, g1, g2⟩
    case hs => (simp only [List.cons_append, List.nil_append]; k_allIn)
    case lt => omega
    case f1 => exact (if_neg (by decide)).trans ((if_neg (by decide)).trans (by with_unfolding_all rfl))
    case f2 => exact (if_pos rfl).trans (by rw [byte_val hb2])
    case q => omega
    case X => exact (rdAt_on hb1 hge').symm.trans hX
end Mine
namespace Mine
local macro_rules | `(tactic| k_all) => `(tactic| first | with_reducible assumption | exact ne_of_ltAll (by assumption) | exact ne_of_allLt (by assumption) | fail "k_all")
local macro_rules | `(tactic| k_allIn) => `(tactic| (intro p hp; k_ownIn))
local macro_rules | `(tactic| walk_at "exec While") => `(tactic| refine stop_out ?_)
local macro_rules | `(tactic| walk_at "pyIter ref") => `(tactic| ((first | (with_reducible show wpAny _ _ (pyIter (Value.ref _)) (fun it s₂ => LoopAtV _ _ _ _ _ _ _ _ _ it s₂) _ _) | (with_reducible show wpAny _ _ (pyIter (Value.ref _)) (fun it s₂ => LoopAtT _ _ _ _ _ _ _ _ _ it s₂) _ _)); refine stop_out ?_))
local macro_rules | `(tactic| walk_at "call builtin:list.append") => `(tactic| (k_dflt (refine' my_append ?k1 ?k2 ?k3 ?z ?_; (case k1 => k_asm); (case k2 => k_asm); (case k3 => k_upd); (case z => (simp only [sizeLine_eq]; omega)); k_whole); intro h' F' N'; (try k_sweep)))
local macro_rules | `(tactic| walk_at "call builtin:list.reverse") => `(tactic| (k_dflt (refine' my_reverse ?k1 ?k2 ?k3 ?z ?_; (case k1 => k_asm); (case k2 => k_asm); (case k3 => k_upd); (case z => (simp only [sizeLine_eq]; omega)); k_whole); intro h' F' N'; (try k_sweep)))
local macro_rules | `(tactic| walk_at "call builtin:len") => `(tactic| (k_dflt (refine' my_len ?k1 ?k2 ?k3 ?z ?_; (case k1 => k_asm); (case k2 => k_mem); (case k3 => k_asm); (case z => omega); k_whole)))
local macro_rules | `(tactic| walk_at "exec For Name Name cons nil") => `(tactic| ((rename Fr _ _ _ _ => lF'); (with_unfolding_all refine' For_invVF lF' ?k1 ?k2 ?_; (case k1 => exact rfl); (case k2 => exact rfl); k_whole)))
local macro_rules | `(tactic| walk_at "exec For Name Call cons nil") => `(tactic| ((rename Fr _ _ _ _ => lF'); (with_unfolding_all refine' For_invVF lF' ?k1 ?k2 ?_; (case k1 => exact rfl); (case k2 => exact rfl); k_whole)))
local macro_rules | `(tactic| walk_at "inplaceOp LShift int int") => `(tactic| (dsimp only; refine ilshift_int_small (by decide) (by decide) (by omega) ?_))
local macro_rules | `(tactic| walk_at "binaryOp LShift int int") => `(tactic| (dsimp only; first | refine lshift_int (by decide) (by assumption) ?_ | refine lshift_int_small (by decide) (by decide) (by omega) ?_))
local macro_rules | `(tactic| walk_at "call ref") => `(tactic| (k_here; k_dflt (first
  | (refine' call_cls ?k1 ?k2 ?k3 ?k4 ?k5 ?k6 ?_; (case k1 => k_asm); (case k2 => k_asm); (case k3 => k_asm); (case k4 => k_is); (case k5 => k_is); (case k6 => k_is); k_whole; intro x' d' h' F' N' l1 l2; (try k_lt l1); (try k_lt2 l2); (try k_sweep); (refine' code_def ?k1 ?k2 ?k3 ?k4 ?k5 ?kA ?kF ?kK ?k6 ?k7 ?k8 ?k9 ?kB ?_ ?c2 ?c3 ?c4 ?c5; (case kA => exact rfl); (case kF => exact rfl); (case kK => first | assumption | exact rfl); (case k1 => k_asm); (case k2 => k_asm); (case k3 => k_asm); (case k4 => k_asm); (case k5 => k_asm); (case k6 => k_is); (case k7 => k_is); (case k8 => ((try simp only [mark_depth]); ktr_room)); (case k9 => first | exact BindsTo.of_eq rfl | exact binds_K (by k_in) rfl (by k_is) rfl rfl rfl); (case c5 => decide); (case kB => exact locs rfl); (case c2 => exact rfl); (case c3 => exact rfl); (case c4 => exact rfl); k_whole; intro g' L' h' FG' F' N' B' X' T'; (try dsimp only); (try k_fold)))
  | (refine wpAny_call ?_; (refine' code_def ?k1 ?k2 ?k3 ?k4 ?k5 ?kA ?kF ?kK ?k6 ?k7 ?k8 ?k9 ?kB ?_ ?c2 ?c3 ?c4 ?c5; (case kA => exact rfl); (case kF => exact rfl); (case kK => first | assumption | exact rfl); (case k1 => k_asm); (case k2 => k_asm); (case k3 => k_asm); (case k4 => k_asm); (case k5 => k_asm); (case k6 => k_is); (case k7 => k_is); (case k8 => ((try simp only [mark_depth]); ktr_room)); (case k9 => first | exact BindsTo.of_eq rfl | exact binds_K (by k_in) rfl (by k_is) rfl rfl rfl); (case c5 => decide); (case kB => exact locs rfl); (case c2 => exact rfl); (case c3 => exact rfl); (case c4 => exact rfl); k_whole; intro g' L' h' FG' F' N' B' X' T'; (try dsimp only); (try k_fold))))))
local macro_rules | `(tactic| walk_at "compareOp Eq ref ref") => `(tactic| (k_dflt (refine' my_eq ?k1 ?k2 ?k3 ?k4 ?k5 ?k6 ?_; (case k1 => k_asm); (case k2 => k_mem); (case k3 => k_mem); (case k4 => first | exact .nil | k_asm); (case k5 => first | exact .nil | k_asm); (case k6 => ktr_units); k_whole)))
local macro_rules | `(tactic| walk_at "compareOp NotEq ref ref") => `(tactic| (k_dflt (refine' my_ne ?k1 ?k2 ?k3 ?k4 ?k5 ?k6 ?_; (case k1 => k_asm); (case k2 => k_mem); (case k3 => k_mem); (case k4 => first | exact .nil | k_asm); (case k5 => first | exact .nil | k_asm); (case k6 => ktr_units); k_whole)))
local macro_rules | `(tactic| walk_at "call ref") => `(tactic| ((first | (show wpAny _ _ (call (Value.ref 21) _) _ _ _) | (show wpAny _ _ (call (Value.ref 28) _) _ _ _) | (show wpAny _ _ (call (Value.ref 64) _) _ _ _) | (show wpAny _ _ (call (Value.ref 99) _) _ _ _) | (show wpAny _ _ (call (Value.ref 106) _) _ _ _) | (show wpAny _ _ (call (Value.ref 113) _) _ _ _) | (show wpAny _ _ (call (Value.ref 120) _) _ _ _)); refine stop_out ?_))
local macro_rules | `(tactic| walk_at "binaryOp Add ref ref") => `(tactic| (dsimp only; k_dflt (refine' my_add ?k1 ?k2 ?k3 ?k4 ?k5 ?k6 ?z ?_; (case k1 => k_asm); (case k2 => k_asm); (case k3 => k_mem); (case k4 => k_mem); (case k5 => first | k_asm | exact .cons _ _ .nil | exact .cons _ _ (.cons _ _ .nil)); (case k6 => first | k_asm | exact .cons _ _ .nil); (case z => ((try simp only [List.length_append, List.length_cons, List.length_nil]); omega)); k_whole); intro D' ws' h' F' N' l1 hI'; (try k_lt l1); (try k_sweep)))
local macro_rules | `(tactic| walk_at "eval IfExp") => `(tactic| refine stop_out ?_)
local macro_rules | `(tactic| walk_at "exec For Name BinOp cons nil") => `(tactic| ((rename Fr _ _ _ _ => lF'); (with_unfolding_all refine' For_invTF lF' ?_ ?hs; (case hs => (intro _; rfl)); k_whole)))
local macro_rules | `(tactic| walk_at "eval ListComp") => `(tactic| ((with_reducible show wpAny _ _ (eval (Expr.ListComp (Expr.BinOp _ Operator.Sub _ _) _ _ _) _) _ _ _); refine stop_out ?_))
local macro_rules | `(tactic| walk_at "eval ListComp") => `(tactic| ((with_reducible show wpAny _ _ (eval (Expr.ListComp (Expr.Subscript _ _ _) _ _ _) _) _ _ _); refine stop_out ?_))
local macro_rules | `(tactic| walk_at "CompSrcT") => `(tactic| refine stop_out ?_)
local macro_rules | `(tactic| walk_at "CompEnd") => `(tactic| ((first | (with_reducible show LCg.CompEnd _ _ _ _ _ _ _ _ _ _ _ (fun _ _ => KCiEl _ _ _ _ _) _ _) | (with_reducible show LCg.CompEnd _ _ _ _ _ _ _ _ _ _ _ (fun _ _ => KCiNo _ _ _ _) _ _)); refine stop_out ?_))
def TupMark : Prop := True
local macro_rules | `(tactic| walk_at "compareOp NotEq ref ref") => `(tactic| (rename TupMark => hTM; refine stop_out ?_))
def L1J (c1 c2 c3 ae sa : Addr) (o1 o2 o3 : Obj) (lo : Nat) (ns : List Nat) (k : Nat) (m : Str → Option Value) (nx : List (Addr × Obj)) : Prop :=
  ∃ (ao : Addr) (ovs evs : List Value) (oc ec : Nat), m (Str.ofString "octets") = some (.ref ao) ∧ m (Str.ofString "script") = some (.ref sa) ∧
    nx = (ae, listOf evs.toArray ec) :: (ao, listOf ovs.toArray oc) :: [(c3, o3), (c2, o2), (c1, o1)] ∧ ao ≠ ae ∧ lo < ao ∧ IntsAre ovs (encs (ns.take k)) ∧ IntsAre evs (endsOf ns k)
def L2J (w : World) (c1 c2 c3 ae ao D Df x d : Addr) (o1 o2 o3 : Obj) (ys ovs evs fvs : List Value) (yc oc ec fc : Nat) (st : Int) (ts t1 t2 : Tok) (ns : List Nat) (k : Nat) (m : Str → Option Value) (nx : List (Addr × Obj)) : Prop :=
  ∃ (tp : Tok), m (Str.ofString "octets") = some (.ref ao) ∧ m (Str.ofString "stray") = some (.int st ts) ∧ m (Str.ofString "infile") = some (.ref x) ∧
    nx = (Df, listOf fvs.toArray fc) :: (x, instObj 81 d) :: (d, fileD w Df (pos ns k) t1 t2 tp) :: (D, listOf ys.toArray yc) :: (ae, listOf evs.toArray ec) :: (ao, listOf ovs.toArray oc) :: [(c3, o3), (c2, o2), (c1, o1)]
def L3J (c1 c2 c3 ae ao D : Addr) (o1 o2 : Obj) (dvs ovs evs : List Value) (oc ec : Nat) (_k : Nat) (m : Str → Option Value) (nx : List (Addr × Obj)) : Prop :=
  ∃ (o3 : Obj) (v : Option Value), o3.data = .cell v ∧ m (Str.ofString "octets") = some (.ref ao) ∧
    nx = (D, listOf dvs.toArray dvs.length) :: (ae, listOf evs.toArray ec) :: (ao, listOf ovs.toArray oc) :: [(c3, o3), (c2, o2), (c1, o1)]
set_option maxRecDepth 100000 in
set_option maxHeartbeats 8000000 in
theorem law_stands : PySem.Challenge.rw_ae0010_01.Holds := by
  refine hd ?_
  w_strict (w_on; k_go0; (all_goals try k_fold))
  w_strict k_steps
  refine stop_in ?_
  rename Fr _ _ _ _ => FF
  rename News _ _ _ _ => NN
  rename IntsAre _ (List.map _ _) => hI8
  obtain ⟨ss, rfl⟩ := nm1 hI8
  rw [nums_is] at hI8
  have hnl := nums_lt ss
  have hn5 := nums_len ss
  rename (_ : Shared).gens = #[] => hgens
  obtain ⟨s1, rfl⟩ := nmS hgens
  rename Heap.IsList _ _ _ => hSL
  obtain ⟨sa, rfl⟩ := nmL hSL
  obtain ⟨ae, ao, D, D5, o3, o2, o1, rfl, rfl, rfl, rfl, rfl, rfl, rfl⟩ := led7 NN
  rename (ao < ae ∧ _) => q1
  rename (D < ao ∧ _) => q2
  rename (_ ≠ D ∧ _) => q3
  have N1 : News _ _ _ ((D, listOf ys.toArray ys.length) :: (ae, listOf ([] : List Value).toArray 0) :: (ao, listOf ([] : List Value).toArray 0) :: [(_, o3), (_, o2), (_, o1)]) := kst_newsOf NN (by k_allIn)
  have hao : ao ≠ ae := Nat.ne_of_lt q1.1
  have hlo : s1.heap.objs.size + 1 + 1 + 1 < ao := q2.2.2.1
  refine for_list (L1J _ _ _ ae sa o1 o2 o3 (s1.heap.objs.size + 1 + 1 + 1) (nums ss)) rfl hI8 FF N1 ⟨ao, [], [], 0, 0, if_pos rfl, by with_unfolding_all rfl, rfl, hao, hlo, .nil, .nil⟩ ?_ ?_
  · rintro i v t m₂ news₂ h₂ tk₂ I oI hi ⟨ao', ovs, evs, oc, ec, hm1, hm2, rfl, hao', hlo', hov, hev⟩ hne F₅ N₅
    rw [List.getElem?_map] at hi
    obtain ⟨n, hn, hv⟩ := Option.map_eq_some_iff.mp hi
    replace hv : v = ((n : Nat) : Int) := hv.symm
    subst hv
    obtain ⟨hil, hnv⟩ := List.getElem?_eq_some_iff.mp hn
    have hn63 := hnl n (List.mem_of_getElem? hn)
    have hn9 := enc_len9 hn63
    have hol := encs_take_len (ss := ss) i
    have F₆ := fr_top [(Str.ofString "octets", .ref ao'), (Str.ofString "script", .ref sa)] F₅ (see2 hm1 hm2)
    clear F₅
    w_strict ((try k_fold); k_steps)
    refine stop_in ?_
    refine' con_use (enc_con _ n _ _ hn63) ?B ?F ?X N₅ ?T ?K ?d ?u ?_
    case B => k_asm
    case F => k_asm
    case X => k_asm
    case T => k_asm
    case K => first | assumption | exact rfl
    case d => ktr_room
    case u => ktr_units
    intro l1 lc1 bs1 h₃ tk₃ F₇ N₇ hl1 hb1
    k_sweep
    try k_fold
    w_strict k_steps
    refine stop_in ?_
    rename News _ _ _ _ => N₈
    refine' con_use (dig_con _ n _ _ hn63) ?B ?F ?X N₈ ?T ?K ?d ?u ?_
    case B => k_asm
    case F => k_asm
    case X => k_asm
    case T => k_asm
    case K => first | assumption | exact rfl
    case d => ktr_room
    case u => ktr_units
    clear N₈
    intro l2 lc2 bs2 h₄ tk₄ F₉ N₉ hl2 hb2
    k_sweep
    try k_fold
    w_strict k_steps
    rotate_left
    · exact absurd rfl (by assumption)
    · refine stop_in ?_
      rename News _ _ _ _ => N₈
      rename (l2 < _ ∧ _) => q4
      refine' con_use (dec_con _ n _ _ _ _ hn63 hb1 ?lt) ?B ?F ?X N₈ ?T ?K ?d ?u ?_
      case lt => repeat (first | exact List.forall_mem_nil _ | refine List.forall_mem_cons.mpr ⟨ltN (by dsimp only; omega), ?_⟩)
      case B => k_asm
      case F => k_asm
      case X => k_asm
      case T => k_asm
      case K => first | assumption | exact rfl
      case d => ktr_room
      case u => ktr_units
      clear N₈
      intro tv h₅ tk₅ F₁₁ N₁₁
      k_sweep
      try k_fold
      w_strict k_steps
      · exact absurd rfl (by assumption)
      · refine stop_in ?_
        refine' conS_use (ref_con _ _ _ _ ?lt) ?B ?XB ?TB ?F ?X N₁₁ ?T ?K ?d ?u ?_
        case lt => omega
        case B => k_asm
        case XB => k_asm
        case TB => k_asm
        case F => k_asm
        case X => k_asm
        case T => k_asm
        case K => first | assumption | exact rfl
        case d => ktr_room
        case u => ktr_units
        clear N₁₁
        intro h₆ tk₆ F₁₂ N₁₂
        k_sweep
        have e1 : @LT.lt Nat _ ae l1 := hl1 _ (.tail _ (.tail _ (.head _)))
        have e2 : @LT.lt Nat _ ae l2 := hl2 _ (.tail _ (.tail _ (.tail _ (.head _))))
        have b1 : @Ne Nat D I := hne _ (.head _)
        have b2 : @Ne Nat ae I := hne _ (.tail _ (.head _))
        have b3 : @Ne Nat ao' ae := hao'
        have b4 : @LT.lt Nat _ D ae := Nat.lt_trans q2.1 q1.1
        have hevl : evs.length ≤ 5 := by
          have h1 := hev.length
          rw [endsOf_len] at h1
          omega
        try k_fold
        w_strict k_steps
        rename Fr _ _ _ (fun y => _) => F13
        rename News _ _ _ _ => N13
        rename IntsAre _ (_ ++ _) => hi13
        obtain ⟨an, rfl⟩ := led1 N13
        rename (l2 < an ∧ _) => q5
        refine' fend ((ae, listOf (evs ++ [?V]).toArray (ec + 1)) :: (an, listOf (?W : List Value).toArray 0) :: [(_, o3), (_, o2), (_, o1)]) F13 N13 ?hs ?ha ⟨an, ?W, evs ++ [?V], 0, ec + 1, ?f1, ?f2, rfl, ?n1, ?n2, ?i1, ?i2⟩
        case hs => (simp only [List.cons_append, List.nil_append]; k_allIn)
        case i1 => rw [encs_succ hil, hnv]; exact hi13
        case ha => exact List.forall_mem_cons.mpr ⟨b2, List.forall_mem_cons.mpr ⟨Nat.ne_of_gt q5.2.2.1, fun p hp => hne p (.tail _ (.tail _ (.tail _ hp)))⟩⟩
        case f1 => exact if_pos rfl
        case f2 => exact (if_neg (by decide)).trans (by with_unfolding_all rfl)
        case n1 => exact Nat.ne_of_gt (Nat.lt_trans e2 q5.1)
        case n2 => exact q5.2.2.2.2.2.2.1
        case i2 => rw [endsOf_succ, ← pos_is hil, hnv]; exact hev.append (.cons _ _ .nil)
  · rintro m₂ nx h₂ tk₂ ⟨ao', ovs, evs, oc, ec, hm1, hm2, rfl, hao', hlo', hov, hev⟩ F₅ N₅
    have F₆ := fr_see [(Str.ofString "octets", .ref ao'), (Str.ofString "script", .ref sa)] F₅ (see2 hm1 hm2)
    clear F₅
    rw [List.length_map] at hev hov
    rw [List.take_length] at hov
    w_strict (dsimp only; (try k_fold); k_steps)
    refine stop_in ?_
    refine wpAny_mono (Q := fun v s' => ∃ (st : Int) (t tk : Nat), v = .int st t ∧ 0 ≤ st ∧ st < 256 ∧ s' = { s1 with heap := h₂, toks := tk }) ?_ ?_ (fun _ _ e => e)
    · with_reducible refine IfExp_ ?_
      w_strict k_steps
    · rintro v s' ⟨st, ts, tk₃, rfl, hst0, hst1, rfl⟩
      have hol := encs_take_len (ss := ss) (nums ss).length
      rw [List.take_length] at hol
      try k_fold
      w_strict k_steps
      refine stop_in ?_
      rename IsRange _ _ _ _ _ _ _ _ => hR
      rename News _ _ _ _ => N7
      rename Fr _ _ _ _ => F7
      obtain ⟨Df, x, d, rfl, rfl, rfl⟩ := led3 N7
      rename (d < x) => r1
      rename (x < Df ∧ _) => r2
      rename (_ < d ∧ _) => r3
      rename IntsAre _ (_ ++ [st]) => hfv
      have N8 : News _ _ _ ((Df, _) :: (x, instObj 81 d) :: (d, fileD _ Df (pos (nums ss) 0) _ _ _) :: (D, listOf ys.toArray ys.length) :: (ae, listOf evs.toArray ec) :: (ao', listOf ovs.toArray oc) :: [(_, o3), (_, o2), (_, o1)]) := kst_newsOf N7 (by k_allIn)
      refine for_range (n := (nums ss).length) (L2J _ _ _ _ ae ao' D Df x d o1 o2 o3 ys ovs evs _ _ oc ec _ st ts _ _ (nums ss)) rfl hR (small_one (by omega) (by omega) (by omega) (by simp only [List.length_map]; omega)) (by rw [rangeSize_nat, List.length_map]; omega) F7 N8 ⟨_, by with_unfolding_all rfl, by with_unfolding_all rfl, by with_unfolding_all rfl, rfl⟩ ?_ ?_
      · rintro i ti m₃ news₃ h₄ tk₄ I oI hi ⟨tp, hm3, hm4, hm5, rfl⟩ hne F₈ N₈
        have F₉ := fr_top [(Str.ofString "octets", .ref ao'), (Str.ofString "stray", .int st ts), (Str.ofString "infile", .ref x)] F₈ (see3 hm3 hm4 hm5)
        clear F₈
        have b1 : @Ne Nat Df I := hne _ (.head _)
        have b2 : @Ne Nat x I := hne _ (.tail _ (.head _))
        have b3 : @Ne Nat d I := hne _ (.tail _ (.tail _ (.head _)))
        have b4 : @LT.lt Nat _ x Df := r2.1
        have b5 : @LT.lt Nat _ d x := r1
        have hol9 : (encs (nums ss) ++ [st]).length ≤ 1000 := by rw [List.length_append, List.length_cons, List.length_nil]; omega
        have hpl := pos_le (nums ss) i
        have hpl2 : pos (nums ss) i ≤ (encs (nums ss) ++ [st]).length := by rw [List.length_append]; omega
        have he9 := endsOf_len (nums ss) (nums ss).length
        have hk0 : (0 : Int) ≤ 0 + (i : Int) := by omega
        have hk1 : (0 : Int) + (i : Int) < ((endsOf (nums ss) (nums ss).length).length : Int) := by omega
        w_strict ((try k_fold); k_steps)
        refine stop_in ?_
        have hne9 : ∀ q ∈ [(I, oI), (D, listOf ys.toArray ys.length), (ae, listOf evs.toArray ec), (ao', listOf ovs.toArray oc), (s1.heap.objs.size + 1 + 1 + 1, o3), (s1.heap.objs.size + 1 + 1, o2), (s1.heap.objs.size + 1, o1)], q.1 ≠ d := by
          repeat (first | exact List.forall_mem_nil _ | refine List.forall_mem_cons.mpr ⟨neN (by dsimp only; omega), ?_⟩)
        refine' con_use (rv_con _ x d Df (pos (nums ss) i) (pos (nums ss) (i + 1)) _ _ _ tp _ (encs (nums ss) ++ [st]) _ _ hfv hol9 hpl2 (rdAt_some hi [st]) hne9 (Nat.ne_of_lt b5) (Nat.ne_of_lt (Nat.lt_trans b5 b4))) ?B ?F ?X (kst_newsOf N₈ ?N) ?T ?K ?d ?u ?_
        case N => k_allIn
        case B => k_asm
        case F => k_asm
        case X => k_asm
        case T => k_asm
        case K => first | assumption | exact rfl
        case d => ktr_room
        case u => ktr_units
        intro tv h₅ tk₅ tp₅ F₁₀ N₁₀
        k_sweep
        try k_fold
        w_strict k_steps
        · exact absurd (nums_getD hi).symm (by assumption)
        · exact absurd (ends_getD hi).symm (by assumption)
        · rename Fr _ _ _ (fun y => _) => F11
          rename News _ _ _ _ => N11
          refine' fend ((Df, _) :: (x, _) :: (d, fileD _ Df (pos (nums ss) (i + 1)) _ _ _) :: (D, _) :: (ae, _) :: (ao', _) :: [(_, o3), (_, o2), (_, o1)]) F11 N11 ?hs ?ha ⟨tp₅, ?f1, ?f2, ?f3, rfl⟩
          case hs => (simp only [List.cons_append, List.nil_append]; k_allIn)
          case ha => exact List.forall_mem_cons.mpr ⟨b1, List.forall_mem_cons.mpr ⟨b2, List.forall_mem_cons.mpr ⟨b3, fun p hp => hne p (.tail _ (.tail _ (.tail _ hp)))⟩⟩⟩
          case f1 => exact (if_neg (by decide)).trans (by with_unfolding_all rfl)
          case f2 => exact (if_neg (by decide)).trans (by with_unfolding_all rfl)
          case f3 => exact (if_neg (by decide)).trans (by with_unfolding_all rfl)
      · rintro m₃ nx h₄ tk₄ ⟨tp, hm3, hm4, hm5, rfl⟩ F₈ N₈
        have F₉ := fr_see [(Str.ofString "octets", .ref ao'), (Str.ofString "stray", .int st ts), (Str.ofString "infile", .ref x)] F₈ (see3 hm3 hm4 hm5)
        clear F₈
        have b4 : @LT.lt Nat _ x Df := r2.1
        have b5 : @LT.lt Nat _ d x := r1
        have hol9 : (encs (nums ss) ++ [st]).length ≤ 1000 := by rw [List.length_append, List.length_cons, List.length_nil]; omega
        rw [pos_all] at N₈
        have hpl2 : (encs (nums ss)).length ≤ (encs (nums ss) ++ [st]).length := by rw [List.length_append]; omega
        w_strict (dsimp only; (try k_fold); k_steps)
        refine stop_in ?_
        have hne9 : ∀ q ∈ [(D, listOf ys.toArray ys.length), (ae, listOf evs.toArray ec), (ao', listOf ovs.toArray oc), (s1.heap.objs.size + 1 + 1 + 1, o3), (s1.heap.objs.size + 1 + 1, o2), (s1.heap.objs.size + 1, o1)], q.1 ≠ d := by
          repeat (first | exact List.forall_mem_nil _ | refine List.forall_mem_cons.mpr ⟨neN (by dsimp only; omega), ?_⟩)
        refine' con_use (rd_con _ x d Df _ 5 _ _ tp _ _ (encs (nums ss) ++ [st]) _ _ hfv hol9 hpl2 (by decide) hne9 (Nat.ne_of_lt b5) (Nat.ne_of_lt (Nat.lt_trans b5 b4))) ?B ?F ?X (kst_newsOf N₈ ?N) ?T ?K ?d ?u ?_
        case N => k_allIn
        case B => k_asm
        case F => k_asm
        case X => k_asm
        case T => k_asm
        case K => first | assumption | exact rfl
        case d => ktr_room
        case u => ktr_units
        intro l5 bs5 h₅ tk₅ tp₅ F₁₀ N₁₀ hl5 hb5
        have e5 : List.take 5 (List.drop (encs (nums ss)).length (encs (nums ss) ++ [st])) = [st] := by rw [List.drop_left]; rfl
        rw [e5] at hb5
        k_sweep
        try k_fold
        w_strict k_steps
        refine stop_in ?_
        rename News _ _ _ _ => N₁₁
        refine' con_use (enc_con _ 0 _ _ (by decide)) ?B ?F ?X N₁₁ ?T ?K ?d ?u ?_
        case B => k_asm
        case F => k_asm
        case X => k_asm
        case T => k_asm
        case K => first | assumption | exact rfl
        case d => ktr_room
        case u => ktr_units
        clear N₁₁
        intro l6 lc6 bs6 h₆ tk₆ F₁₂ N₁₂ hl6 hb6
        have e6 : enc 0 = [0] := by unfold enc; rw [Nat.zero_div, low_zero]; rfl
        rw [e6] at hb6
        have he9 := endsOf_len (nums ss) (nums ss).length
        replace N₁₂ := kst_newsOf (l' := [(D, listOf ys.toArray ys.length), (ae, listOf evs.toArray ec), (ao', listOf ovs.toArray oc), (s1.heap.objs.size + 1 + 1 + 1, o3), (s1.heap.objs.size + 1 + 1, o2), (s1.heap.objs.size + 1, o1), (l6, listOf bs6.toArray lc6)]) N₁₂ (by k_allIn)
        k_sweep
        try k_fold
        w_strict k_steps
        refine stop_in ?_
        obtain ⟨dvs, rfl⟩ : ∃ z, z = ys := ⟨_, rfl⟩
        rename Fr _ _ _ _ => F13
        rename News _ _ _ _ => N13
        refine LCg.ListComp_U (F₀ := F13) (by with_unfolding_all rfl) (by decide) (by rfl) (by decide) (by rfl) ?_
        w_strict k_steps
        refine stop_in ?_
        rename IntsAre _ (_ ++ _ ++ List.map _ _) => hcv
        rename News _ _ _ _ => N14
        rename Fr _ _ _ _ => F14
        rename o3.data = _ => ho3
        obtain ⟨cl, rfl⟩ := led1 N14
        have N15 : News _ _ _ ((cl, _) :: (D, listOf dvs.toArray dvs.length) :: (ae, listOf evs.toArray ec) :: (ao', listOf ovs.toArray oc) :: [(_, o3), (_, o2), (_, o1)]) := kst_newsOf N14 (by k_allIn)
        refine for_listT (L3J _ _ _ ae ao' D o1 o2 dvs ovs evs oc ec) rfl hcv F14 N15 ⟨o3, _, ho3, by with_unfolding_all rfl, rfl⟩ ?_ ?_
        · rintro i n t m₄ news₄ s₄ I oI hi ⟨o3', v3, hd3, hm6, rfl⟩ hne F₁₅ N₁₆
          obtain ⟨cut, rfl, hcut⟩ := cut_bnd hi
          obtain ⟨j, part, hj, htk, hpart, hjs⟩ := cut_split (nums ss) cut hcut
          have F₁₆ := fr_see [(Str.ofString "octets", .ref ao')] F₁₅ (see1 hm6)
          clear F₁₅
          have b1 : @Ne Nat cl I := hne _ (.head _)
          have b2 : @Ne Nat D I := hne _ (.tail _ (.head _))
          have b3 : @Ne Nat ae I := hne _ (.tail _ (.tail _ (.head _)))
          have b4 : @Ne Nat ao' I := hne _ (.tail _ (.tail _ (.tail _ (.head _))))
          have b5 : @Ne Nat (s1.heap.objs.size + 1 + 1 + 1) I := hne _ (.tail _ (.tail _ (.tail _ (.tail _ (.head _)))))
          have b6 : @Ne Nat (s1.heap.objs.size + 1 + 1) I := hne _ (.tail _ (.tail _ (.tail _ (.tail _ (.tail _ (.head _))))))
          have b7 : @Ne Nat (s1.heap.objs.size + 1) I := hne _ (.tail _ (.tail _ (.tail _ (.tail _ (.tail _ (.tail _ (.head _)))))))
          have ha9 : ∀ o : Obj, ∀ p ∈ [(D, listOf dvs.toArray dvs.length), (ae, listOf evs.toArray ec), (ao', listOf ovs.toArray oc), (s1.heap.objs.size + 1 + 1 + 1, o), (s1.heap.objs.size + 1 + 1, o2), (s1.heap.objs.size + 1, o1)], p.1 ≠ I := fun o => List.forall_mem_cons.mpr ⟨b2, List.forall_mem_cons.mpr ⟨b3, List.forall_mem_cons.mpr ⟨b4, List.forall_mem_cons.mpr ⟨b5, List.forall_mem_cons.mpr ⟨b6, List.forall_mem_cons.mpr ⟨b7, List.forall_mem_nil _⟩⟩⟩⟩⟩⟩
          have hlo'' : @LT.lt Nat _ (s1.heap.objs.size + 1 + 1 + 1) ao' := hlo'
          have d1 : @LT.lt Nat _ (s1.heap.objs.size + 1 + 1 + 1) cl := by omega
          have d2 : @Ne Nat (s1.heap.objs.size + 1 + 1 + 1) D := q3.2.1
          have d3 : @LT.lt Nat _ (s1.heap.objs.size + 1 + 1 + 1) ae := by omega
          repeat (first | (rename (_ < _ ∧ _) => zz; clear zz) | (rename (_ ≠ _ ∧ _) => zz; clear zz) | (rename (List.length _ = List.length _) => zz; clear zz) | (rename (_ < _ ∧ _) => zz; clear zz))
          refine wpAny_assign_Name ?_
          w_strict ((try k_fold); k_steps)
          refine stop_in ?_
          rename IsRange _ _ _ _ _ _ _ _ => hR3
          rename Fr _ _ _ _ => F17
          rename News _ _ _ _ => N17
          rename Obj.data _ = Data.cell (some (Value.int _ _)) => hdc
          refine LCt.CompSrcT.range (n := (nums ss).length) rfl F17 N17 hR3 (small_one (by omega) (by omega) (by omega) (by simp only [List.length_map]; omega)) (by rw [rangeSize_nat, List.length_map]; omega) (by rw [PySem.sizeLine_eq]; omega) ?_
          intro g9
          have he9 := endsOf_len (nums ss) (nums ss).length
          have hnm9 : ((nums ss).map Int.ofNat).length = (nums ss).length := List.length_map _
          refine' kci_range (dueG (endsOf (nums ss) (nums ss).length) ((nums ss).map Int.ofNat) (cut : Int)) (fun k' t' I' oI' C' oC' D9 m9 ys9 l9 h9 tk9 E9 hlo9 hhi9 hI9 hC9 hx9 F9 N9 off9 ne9 mk9 => ?_) ?_ (dueG_grows _ _ _)
          · clear b1 b2 b3 b4 b5 b6 b7 d1 d2 d3 ne9 hlo''
            have hk1 : k' < ((endsOf (nums ss) (nums ss).length).length : Int) := by omega
            have hk2 : k' < (((nums ss).map Int.ofNat).length : Int) := by omega
            w_strict ((try k_fold); k_steps)
            all_goals refine stop_in ?_
            · exact ⟨h9, tk9, _, rfl, F9, N9, off9, trivial, kci_el (if_pos (by assumption)) rfl rfl⟩
            · exact ⟨h9, tk9, _, rfl, F9, N9, off9, trivial, kci_no (if_neg (by assumption)) rfl⟩
          · unfold KPfDone
            intro us hus hul
            rw [due_is hj hjs] at hus
            intro D9 h9 tk9 F18 N18 off9
            simp only [LCg.Off1, and_true] at off9
            clear b1 b2 b3 b4 b5 b6 b7
            w_strict (dsimp only; (try k_fold); k_steps)
            refine stop_in ?_
            rename News _ _ _ _ => N20
            rename IntsAre _ (List.take _ _) => hsl
            rw [show ((cut : Nat) : Int).toNat = cut from Int.toNat_natCast cut, htk] at hsl
            have hsn : (encs (List.take j (nums ss)) ++ part).length ≤ 1000 := by rw [← htk, List.length_take]; omega
            have hsq : (encs (List.take j (nums ss)) ++ part).length = cut := by rw [← htk, List.length_take]; omega
            obtain ⟨sl, rfl⟩ := led1 N20
            refine' conS_use (read_con _ sl _ (List.take j (nums ss)) part _ _ hsl hpart ?lt hsn) ?B ?XB ?TB ?F ?X N20 ?T ?K ?d ?u ?_
            case lt => repeat (first | exact List.forall_mem_nil _ | refine List.forall_mem_cons.mpr ⟨ltN (by dsimp only; omega), ?_⟩)
            case B => k_asm
            case XB => k_asm
            case TB => k_asm
            case F => k_asm
            case X => k_asm
            case T => k_asm
            case K => first | assumption | exact rfl
            case d => ktr_room
            case u => ktr_units
            intro t10 lf fs cf h10 tk10 tp10 F21 N21 l1 l2 l3 hfs
            rw [hsq] at N21
            k_sweep
            try k_fold
            have hTM : TupMark := True.intro
            w_strict k_steps
            refine stop_in ?_
            rename News _ _ _ _ => N22
            show wpAny _ _ (compareOp .NotEq (.ref t10) (.ref _)) _ _ _
            refine' pair_ne N22 ?pna ?pnb ?pnla ?pnlb hfs hus ?pnu ?_
            case pna => k_mem
            case pnb => k_mem
            case pnla => k_mem
            case pnlb => k_mem
            case pnu => ktr_units
            w_strict k_steps
            rename Fr _ _ _ (fun y => _) => F23
            rename News _ _ _ _ => N23
            refine' fend ((D, _) :: (ae, _) :: (ao', _) :: [(_, _), (_, o2), (_, o1)]) F23 N23 ?fnhs (ha9 _) ⟨_, _, hdc, ?fnf1, rfl⟩
            case fnhs => (simp only [List.cons_append, List.nil_append]; k_allIn)
            case fnf1 => exact (if_neg (by decide)).trans (by with_unfolding_all rfl)
        · rintro m₅ nx h₇ tk₇ ⟨o3', v3, hd3, hm7, rfl⟩ F₁₇ N₁₇
          w_strict (dsimp only; (try k_fold); k_steps)
end Mine
theorem PySem.Challenge.cw_ae0010_01_holds : PySem.Challenge.rw_ae0010_01.Holds :=
  Mine.law_stands
