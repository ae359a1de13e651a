import PyProof.Rows.All
import Wide.All
import OpenK.AllK
import Wide.FinOn
import PySem.Challenge.RW_bl0003_02
open PySem PySem.W PyProof.Rows PySem.Calls
set_option Elab.async false
set_option maxRecDepth 100000
namespace Mine
open_top hd for PySem.Challenge.rw_bl0003_02
theorem walkOff : True := by
  w_top off
  trivial
end Mine

section
namespace Mine
/-- the ledger's open part: its own addresses differ, and none is one of the closed part's -/
def Sep (l R : List (Addr × Obj)) : Prop := (l.map Prod.fst).Nodup ∧ ∀ p ∈ R, ∀ q ∈ l, p.1 ≠ q.1

theorem Sep.nil (R : List (Addr × Obj)) : Sep [] R := ⟨List.nodup_nil, fun _ _ _ h => nomatch h⟩
theorem Sep.ne {q : Addr × Obj} {l R : List (Addr × Obj)} (D : Sep (q :: l) R) : ∀ p ∈ l, p.1 ≠ q.1 := fun p hp e =>
  (List.nodup_cons.mp D.1).1 (List.mem_map.mpr ⟨p, hp, e⟩)
theorem Sep.tail {q : Addr × Obj} {l R : List (Addr × Obj)} (D : Sep (q :: l) R) : Sep l R := ⟨(List.nodup_cons.mp D.1).2, fun p hp r hr => D.2 p hp r (.tail _ hr)⟩
theorem Sep.cons {q : Addr × Obj} {l R : List (Addr × Obj)} (h : ∀ p ∈ l ++ R, p.1 ≠ q.1) (D : Sep l R) : Sep (q :: l) R :=
  ⟨List.nodup_cons.mpr ⟨fun hm => let ⟨p, hp, e⟩ := List.mem_map.mp hm; h p (List.mem_append_left _ hp) e, D.1⟩, fun p hp r hr => by
    rcases List.mem_cons.mp hr with rfl | hr
    · exact h p (List.mem_append_right _ hp)
    · exact D.2 p hp r hr⟩
theorem Sep.new {q : Addr × Obj} {l R : List (Addr × Obj)} (D : Sep l R) (h : ∀ p ∈ l ++ R, p.1 < q.1) : Sep (q :: l) R := D.cons fun p hp => Nat.ne_of_lt (h p hp)
theorem Sep.congr {l l' R : List (Addr × Obj)} (D : Sep l R) (e : l'.map Prod.fst = l.map Prod.fst) : Sep l' R :=
  ⟨e ▸ D.1, fun p hp q hq => by
    have : q.1 ∈ l.map Prod.fst := e ▸ List.mem_map.mpr ⟨q, hq, rfl⟩
    obtain ⟨r, hr, h⟩ := List.mem_map.mp this
    exact h ▸ D.2 p hp r hr⟩
theorem Sep.sub {l R R' : List (Addr × Obj)} (D : Sep l R) (h : ∀ p ∈ R', p ∈ R) : Sep l R' := ⟨D.1, fun p hp => D.2 p (h p hp)⟩
/-- moving what stands in the open part to the closed one -/
theorem Sep.shut {a b R : List (Addr × Obj)} (D : Sep (a ++ b) R) : Sep a (b ++ R) := by
  refine ⟨(List.nodup_append.mp (List.map_append ▸ D.1)).1, fun p hp q hq => ?_⟩
  rcases List.mem_append.mp hp with hp | hp
  · exact fun e => (List.nodup_append.mp (List.map_append ▸ D.1)).2.2 q.1 (List.mem_map.mpr ⟨q, hq, rfl⟩) p.1 (List.mem_map.mpr ⟨p, hp, rfl⟩) e.symm
  · exact D.2 p hp q (List.mem_append_left _ hq)
theorem Sep.open {a b R : List (Addr × Obj)} (D : Sep a (b ++ R)) (D' : Sep b R) : Sep (a ++ b) R := by
  refine ⟨?_, fun p hp q hq => ?_⟩
  · rw [List.map_append]
    refine List.nodup_append.mpr ⟨D.1, D'.1, fun x hx y hy e => ?_⟩
    obtain ⟨q, hq, rfl⟩ := List.mem_map.mp hx
    obtain ⟨p, hp, rfl⟩ := List.mem_map.mp hy
    exact D.2 p (List.mem_append_left _ hp) q hq e.symm
  · rcases List.mem_append.mp hq with hq | hq
    · exact D.2 p (List.mem_append_right _ hp) q hq
    · exact D'.2 p hp q hq
theorem Sep.perm {l l' R : List (Addr × Obj)} (D : Sep l R) (h : l'.Perm l) : Sep l' R :=
  ⟨(h.map _).nodup_iff.mpr D.1, fun p hp q hq => D.2 p hp q (h.mem_iff.mp hq)⟩
theorem news_sub {h₀ h : Heap} {L : Addr} {a b : List (Addr × Obj)} (N : News h₀ L h a) (hs : ∀ p ∈ b, p ∈ a) : News h₀ L h b := fun p hp => N p (hs p hp)

/-- the change of one object, by Sep -/
inductive At (d : Addr) (o o' : Obj) : List (Addr × Obj) → List (Addr × Obj) → Prop
  | head {r} : At d o o' ((d, o) :: r) ((d, o') :: r)
  | tail {p r r'} : At d o o' r r' → At d o o' (p :: r) (p :: r')
theorem At.map {d : Addr} {o o' : Obj} : ∀ {l l' : List (Addr × Obj)}, At d o o' l l' → l'.map Prod.fst = l.map Prod.fst
  | _, _, .head => rfl
  | _, _, .tail h => by simp [At.map h]
theorem At.mem {d : Addr} {o o' : Obj} : ∀ {l l' : List (Addr × Obj)}, At d o o' l l' → (d, o) ∈ l
  | _, _, .head => .head _
  | _, _, .tail h => .tail _ h.mem
theorem At.upd {d : Addr} {o o' : Obj} {R : List (Addr × Obj)} : ∀ {l l' : List (Addr × Obj)}, At d o o' l l' → Sep l R → Upd d o o' (l ++ R) (l' ++ R)
  | _, _, .head, D => .head fun p hp => (List.mem_append.mp hp).elim (D.ne p) fun h => D.2 p h _ (.head _)
  | _, _, .tail h, D => .tail (fun e => D.ne _ h.mem e.symm) (h.upd D.tail)

def LoopPost (h₀ : Heap) (L : Addr) (R : List (Addr × Obj)) (Jn : (Str → Option Value) → List (Addr × Obj) → Prop) (s : Shared) (Q : Flow → Shared → Prop) (f : Flow) (s₂ : Shared) : Prop :=
  match f with
  | .ret v => Q (.ret v) s₂
  | .brk => Q .next s₂
  | _ => ∃ h' tk m' nx', s₂ = { s with heap := h', toks := tk } ∧ Fr h₀ L h' m' ∧ News h₀ L h' (nx' ++ R) ∧ Sep nx' R ∧ Jn m' nx'

section
variable {prog : Program} {w : World} {A : Around} {E : Value → Shared → Prop} {s : Shared} {env : Env} {h₀ : Heap} {x : Str} {body : List Stmt} {Q : Flow → Shared → Prop} {R : List (Addr × Obj)}

theorem for_gen {I : Addr} {fp wr : List Addr} {n : Nat} {P : Nat → Value → Prop} {St : Nat → Heap → Prop} {m₀ : Str → Option Value} {nx₀ : List (Addr × Obj)} (J : Nat → (Str → Option Value) → List (Addr × Obj) → Prop)
    (W : Walks prog w A I fp wr n P St) (hal : ∀ i h, St i h → ∀ b ∈ wr, ∃ o, h.get? b = some o) (hLf : env.locals ∉ fp) (hwr : ∀ b ∈ wr, h₀.get? b = none)
    (hfp : ∀ b ∈ fp, b ∈ wr ∨ (∃ o, (b, o) ∈ R) ∨ ∃ o, h₀.get? b = some o) (hnw : ∀ p ∈ nx₀ ++ R, p.1 ∉ wr) (hst : St 0 s.heap)
    (F : Fr h₀ env.locals s.heap m₀) (N : News h₀ env.locals s.heap (nx₀ ++ R)) (D : Sep nx₀ R) (h0 : J 0 m₀ nx₀)
    (turn : ∀ i v m₁ nx h tk own, i < n → P i v → J i m₁ nx → Fr h₀ env.locals h (fun y => if y = x then some v else m₁ y) → News h₀ env.locals h (nx ++ (own ++ R)) → Sep nx (own ++ R) →
      wpAny (model prog w) A (execs body env) (LoopPost h₀ env.locals (own ++ R) (J (i + 1)) s Q) E { s with heap := h, toks := tk })
    (done : ∀ m₁ nx h tk, J n m₁ nx → Fr h₀ env.locals h m₁ → News h₀ env.locals h (nx ++ R) → Sep nx R → Q .next { s with heap := h, toks := tk }) :
    LoopAtV prog w A h₀ env x body Q E (.ref I) s := by
  refine ⟨I, fp, wr, n, P, St, m₀, nx₀ ++ R, fun i m nx => ∃ nx', nx = nx' ++ R ∧ Sep nx' R ∧ J i m nx', rfl, W, hLf, hwr, hnw, hst, F, N, ⟨nx₀, rfl, D, h0⟩, ?_, ?_⟩
  · rintro i v m₁ _ s₁ own ⟨hh, tk, rfl⟩ hi hP ⟨nx, rfl, D₁, hJ⟩ hoff hown hget hcov hst' F₁ N₁
    have alive : ∀ b ∈ wr, ∃ o, (b, o) ∈ own := fun b hb => by
      obtain ⟨o, ho⟩ := hal _ _ hst' b hb
      exact ⟨o, hcov b (W.sub b hb) (hwr b hb) o ho⟩
    have D₂ : Sep nx (own ++ R) := by
      refine ⟨D₁.1, fun p hp q hq => ?_⟩
      rcases List.mem_append.mp hp with hp | hp
      · intro e
        rcases hfp _ (hown p hp) with h | ⟨o, h⟩ | ⟨o, h⟩
        · exact hoff q (List.mem_append_left _ hq) (e ▸ h)
        · exact D₁.2 _ h q hq e
        · have := (N₁ q (List.mem_append_right _ (List.mem_append_left _ hq))).2.2
          rw [← e, h] at this; cases this
      · exact D₁.2 p hp q hq
    have N₂ : News h₀ env.locals hh (nx ++ (own ++ R)) := fun p hp => N₁ p (by
      rcases List.mem_append.mp hp with h | h
      · exact List.mem_append_right _ (List.mem_append_left _ h)
      · rcases List.mem_append.mp h with h | h
        · exact List.mem_append_left _ h
        · exact List.mem_append_right _ (List.mem_append_right _ h))
    refine wpAny_mono (turn i v m₁ nx hh tk own hi hP hJ F₁ N₂ D₂) (fun f s₂ p => ?_) fun _ _ e => e
    have fin : LoopPost h₀ env.locals (own ++ R) (J (i + 1)) s Q .next s₂ → LoopStepU h₀ env.locals wr own (fun m nx => ∃ nx', nx = nx' ++ R ∧ Sep nx' R ∧ J (i + 1) m nx') { s with heap := hh, toks := tk } .next s₂ := by
      rintro ⟨h', tk', m', nx', rfl, F', N', D', hJ'⟩
      refine ⟨rfl, h', tk', m', nx' ++ R, rfl, F', fun p hp => N' p ?_, fun p hp hw => ?_, nx', rfl, D'.sub fun p hp => List.mem_append_right _ hp, hJ'⟩
      · rcases List.mem_append.mp hp with h | h
        · exact List.mem_append_right _ (List.mem_append_left _ h)
        · rcases List.mem_append.mp h with h | h
          · exact List.mem_append_left _ h
          · exact List.mem_append_right _ (List.mem_append_right _ h)
      · rcases List.mem_append.mp hp with h | h
        · obtain ⟨o, ho⟩ := alive _ hw
          exact D'.2 _ (List.mem_append_left _ ho) p h rfl
        · exact hnw p (List.mem_append_right _ h) hw
    cases f with
    | ret v => exact .ret p
    | brk => exact .brk p
    | next => exact .next (fin p)
    | cont => exact .cont (fin p)
  · rintro h' tk m' _ F' N' _ ⟨nx, rfl, D', hJ⟩
    exact done m' nx h' tk hJ F' N' D'

theorem for_str {xt : Str} {tx : Tok} {m₀ : Str → Option Value} {nx₀ : List (Addr × Obj)} (J : Nat → (Str → Option Value) → List (Addr × Obj) → Prop)
    (hh : A.handled = none) (F : Fr h₀ env.locals s.heap m₀) (N : News h₀ env.locals s.heap (nx₀ ++ R)) (D : Sep nx₀ R) (h0 : J 0 m₀ nx₀)
    (turn : ∀ i c t m₁ nx h tk own, xt.cps[i]? = some c → J i m₁ nx → Fr h₀ env.locals h (fun y => if y = x then some (.str ⟨#[c]⟩ t) else m₁ y) → News h₀ env.locals h (nx ++ (own ++ R)) → Sep nx (own ++ R) →
      wpAny (model prog w) A (execs body env) (LoopPost h₀ env.locals (own ++ R) (J (i + 1)) s Q) E { s with heap := h, toks := tk })
    (done : ∀ m₁ nx h tk, J xt.cps.size m₁ nx → Fr h₀ env.locals h m₁ → News h₀ env.locals h (nx ++ R) → Sep nx R → Q .next { s with heap := h, toks := tk }) :
    wpAny (model prog w) A (pyIter (.str xt tx)) (fun it s₂ => LoopAtV prog w A h₀ env x body Q E it s₂) E s := by
  have go : ∀ (o : Obj) (St : Nat → Heap → Prop), Walks prog w A s.heap.objs.size [s.heap.objs.size] [s.heap.objs.size] xt.cps.size (SignAt xt) St → St 0 (s.heap.push o) → (∀ i h, St i h → ∀ b ∈ [s.heap.objs.size], ∃ o, h.get? b = some o) →
      LoopAtV prog w A h₀ env x body Q E (.ref s.heap.objs.size) { s with heap := s.heap.push o } := by
    intro o St W hst hal
    refine for_gen J W hal ?_ ?_ ?_ ?_ hst (F.push _) (fun p hp => ⟨Heap.get?_push_of_some _ (N p hp).1, (N p hp).2⟩) D h0 ?_ ?_
    · intro hm; exact absurd F.ns.lt ((List.mem_singleton.mp hm) ▸ Nat.lt_irrefl _)
    · intro b hb; rw [List.mem_singleton.mp hb]; exact next_is_new F
    · intro b hb; exact .inl hb
    · intro p hp hI; exact absurd (Heap.lt_size (N p hp).1) ((List.mem_singleton.mp hI) ▸ Nat.lt_irrefl _)
    · rintro i v m₁ nx h tk own hi ⟨c, u, hc, rfl⟩ hJ F₁ N₁ D₁
      exact turn i c u m₁ nx h tk own hc hJ F₁ N₁ D₁
    · intro m₁ nx h tk hJ F₁ N₁ D₁
      exact done m₁ nx h tk hJ F₁ N₁ D₁
  have al : ∀ ty (i : Nat) (h : Heap), h.IsStrIter s.heap.objs.size ty xt tx i → ∀ b ∈ [s.heap.objs.size], ∃ o, h.get? b = some o := fun ty i h st b hb => by
    obtain ⟨o, ho, _⟩ := st
    exact ⟨o, by rw [List.mem_singleton.mp hb]; exact ho⟩
  cases ha : xt.cps.all (· < 128)
  · exact wpAny_pyIter_wide ha (go _ _ (Walks.strWide hh _ xt tx) ⟨_, Heap.get?_push_size _ rfl, rfl, rfl⟩ (al _))
  · exact wpAny_pyIter_ascii ha (go _ _ (Walks.strAscii hh _ xt tx) ⟨_, Heap.get?_push_size _ rfl, rfl, rfl⟩ (al _))

theorem for_range {r : Addr} {a₀ b₀ : Int} {t₀ u₀ v₀ : Tok} {n : Nat} {m₀ : Str → Option Value} {nx₀ : List (Addr × Obj)} (J : Nat → (Str → Option Value) → List (Addr × Obj) → Prop)
    (hh : A.handled = none) (hr : IsRange s.heap r a₀ b₀ 1 t₀ u₀ v₀) (hsmall : Builtin.Range.small a₀ b₀ 1 = true) (hn : Builtin.Range.rangeSize a₀ b₀ 1 = (n : Int))
    (F : Fr h₀ env.locals s.heap m₀) (N : News h₀ env.locals s.heap (nx₀ ++ R)) (D : Sep nx₀ R) (h0 : J 0 m₀ nx₀)
    (turn : ∀ (i : Nat) t m₁ nx h tk own, i < n → J i m₁ nx → Fr h₀ env.locals h (fun y => if y = x then some (.int (a₀ + i) t) else m₁ y) → News h₀ env.locals h (nx ++ (own ++ R)) → Sep nx (own ++ R) →
      wpAny (model prog w) A (execs body env) (LoopPost h₀ env.locals (own ++ R) (J (i + 1)) s Q) E { s with heap := h, toks := tk })
    (done : ∀ m₁ nx h tk, J n m₁ nx → Fr h₀ env.locals h m₁ → News h₀ env.locals h (nx ++ R) → Sep nx R → Q .next { s with heap := h, toks := tk }) :
    wpAny (model prog w) A (pyIter (.ref r)) (fun it s₂ => LoopAtV prog w A h₀ env x body Q E it s₂) E s := by
  refine wpAny_pyIter_range hr hsmall ?_
  refine for_gen J (Walks.range hh s.heap.objs.size a₀ 1 n) ?_ ?_ ?_ ?_ ?_ (by show IsRangeIter _ _ _ _ _; rw [hn]; simpa using Heap.get?_push_size _ rfl) (F.push _) (fun p hp => ⟨Heap.get?_push_of_some _ (N p hp).1, (N p hp).2⟩) D h0 ?_ ?_
  · intro i h st b hb
    exact ⟨_, by rw [List.mem_singleton.mp hb]; exact st⟩
  · intro hm; exact absurd F.ns.lt ((List.mem_singleton.mp hm) ▸ Nat.lt_irrefl _)
  · intro b hb; rw [List.mem_singleton.mp hb]; exact next_is_new F
  · intro b hb; exact .inl hb
  · intro p hp hI; exact absurd (Heap.lt_size (N p hp).1) ((List.mem_singleton.mp hI) ▸ Nat.lt_irrefl _)
  · rintro i v m₁ nx h tk own hi ⟨t, rfl⟩ hJ F₁ N₁ D₁
    have e1 : a₀ + (i : Int) * 1 = a₀ + (i : Int) := by omega
    rw [e1] at F₁
    exact turn i t m₁ nx h tk own hi hJ F₁ N₁ D₁
  · intro m₁ nx h tk hJ F₁ N₁ D₁
    exact done m₁ nx h tk hJ F₁ N₁ D₁

theorem for_list {l : Addr} {vs : List Value} {m₀ : Str → Option Value} {nx₀ : List (Addr × Obj)} (J : Nat → (Str → Option Value) → List (Addr × Obj) → Prop)
    (hh : A.handled = none) (hl : (∃ n, (l, listOf vs.toArray n) ∈ R) ∨ h₀.IsList l vs.toArray)
    (F : Fr h₀ env.locals s.heap m₀) (N : News h₀ env.locals s.heap (nx₀ ++ R)) (D : Sep nx₀ R) (h0 : J 0 m₀ nx₀)
    (turn : ∀ (i : Nat) v m₁ nx h tk own, vs[i]? = some v → J i m₁ nx → Fr h₀ env.locals h (fun y => if y = x then some v else m₁ y) → News h₀ env.locals h (nx ++ (own ++ R)) → Sep nx (own ++ R) →
      wpAny (model prog w) A (execs body env) (LoopPost h₀ env.locals (own ++ R) (J (i + 1)) s Q) E { s with heap := h, toks := tk })
    (done : ∀ m₁ nx h tk, J vs.length m₁ nx → Fr h₀ env.locals h m₁ → News h₀ env.locals h (nx ++ R) → Sep nx R → Q .next { s with heap := h, toks := tk }) :
    wpAny (model prog w) A (pyIter (.ref l)) (fun it s₂ => LoopAtV prog w A h₀ env x body Q E it s₂) E s := by
  have hls : s.heap.IsList l vs.toArray := by
    rcases hl with ⟨n, hm⟩ | hl
    · exact ⟨_, (N _ (List.mem_append_right _ hm)).1, rfl, n, rfl⟩
    · exact hl.at fun o e => F.keep l o e
  have hlt : l < s.heap.objs.size := by obtain ⟨o, ho, _⟩ := id hls; exact Heap.lt_size ho
  have hne : l ≠ s.heap.objs.size := Nat.ne_of_lt hlt
  have hlL : l ≠ env.locals := by
    rcases hl with ⟨n, hm⟩ | ⟨o, ho, _⟩
    · exact (N _ (List.mem_append_right _ hm)).2.1
    · exact Nat.ne_of_lt (Nat.lt_of_lt_of_le (Heap.lt_size ho) F.above)
  refine wpAny_pyIter_list hls ?_
  have W := Walks.list (prog := prog) (w := w) hh s.heap.objs.size l hne vs.toArray
  rw [List.size_toArray] at W
  refine for_gen J W ?_ ?_ ?_ ?_ ?_ ⟨⟨_, Heap.get?_push_size _ rfl, rfl, rfl⟩, hls.at fun o e => Heap.get?_push_of_some _ e⟩ (F.push _) (fun p hp => ⟨Heap.get?_push_of_some _ (N p hp).1, (N p hp).2⟩) D h0 ?_ ?_
  · rintro i h ⟨⟨o, ho, _⟩, _⟩ b hb
    exact ⟨o, by rw [List.mem_singleton.mp hb]; exact ho⟩
  · intro hm
    rcases List.mem_cons.mp hm with e | hm
    · exact absurd F.ns.lt (e ▸ Nat.lt_irrefl _)
    · exact hlL (List.mem_singleton.mp hm).symm
  · intro b hb; rw [List.mem_singleton.mp hb]; exact next_is_new F
  · intro b hb
    rcases List.mem_cons.mp hb with e | hb
    · exact .inl (e ▸ .head _)
    · rw [List.mem_singleton.mp hb]
      rcases hl with ⟨n, hm⟩ | ⟨o, ho, _⟩
      · exact .inr (.inl ⟨_, hm⟩)
      · exact .inr (.inr ⟨o, ho⟩)
  · intro p hp hI; exact absurd (Heap.lt_size (N p hp).1) ((List.mem_singleton.mp hI) ▸ Nat.lt_irrefl _)
  · rintro i v m₁ nx h tk own hi hv hJ F₁ N₁ D₁
    exact turn i v m₁ nx h tk own (by simpa using hv) hJ F₁ N₁ D₁
  · intro m₁ nx h tk hJ F₁ N₁ D₁
    exact done m₁ nx h tk hJ F₁ N₁ D₁
end
end Mine
namespace Mine
theorem fr_env {h₀ h : Heap} {L : Addr} {m : Str → Option Value} (ps : List (Str × Value)) (hp : ∀ p ∈ ps, m p.1 = some p.2) (F : Fr h₀ L h m) : Fr h₀ L h (kstB m ps) := by
  have e : kstB m ps = m := by funext z; exact kstB_eq hp fun _ => rfl
  rw [e]; exact F
theorem fr_envx {h₀ h : Heap} {L : Addr} {x : Str} {v : Value} {m : Str → Option Value} (ps : List (Str × Value)) (hp : ∀ p ∈ ps, m p.1 = some p.2) (F : Fr h₀ L h (fun y => if y = x then some v else m y)) :
    Fr h₀ L h (kstB m ((x, v) :: ps)) := by
  have e : kstB m ((x, v) :: ps) = (fun y => if y = x then some v else m y) := by
    funext z
    show (if z = x then some v else kstB m ps z) = _
    split
    · rfl
    · exact kstB_eq hp fun _ => rfl
  rw [e]; exact F
end Mine
namespace Mine
/-- what a def of the text does: its arguments, the open part of the ledger ahead and behind, what it reads of the closed part -/
def Ctr (prog : Program) (w : World) (K : Frag) (p : Program) (loose : List Str) (mean : ExcName → Option Value) (mg mb : Str → Option Value) (f : Addr) (dk uk : Nat) (args : Args) (pre ro : List (Addr × Obj)) (post : Value → List (Addr × Obj) → Prop) : Prop :=
  ∀ (dp un : Nat) (gd : Option (List Code)) (cn : Str) (cs : Scope) (a : Addr) (ccd : Value) (cl : List (Str × Addr)) (outer : List Env) (A₀ : Around) (base h₀ : Heap) (L : Addr) (m : Str → Option Value) (R : List (Addr × Obj)) (s : Shared) (RR : Result → Shared → Prop),
    Below A₀ base outer h₀ → Fr h₀ L s.heap m → K.In h₀ → News h₀ L s.heap (pre ++ R) → Sep pre R → (∀ q ∈ ro, q ∈ R) → Top p loose mean mg mb h₀ → cs.kind = .function → dp + dk ≤ recursionLimit → un + uk ≤ cLine →
    (∀ v l h' tk', post v l → Fr h₀ L h' m → News h₀ L h' (l ++ R) → Sep l R → RR (.ok (.ret v)) { s with heap := h', toks := tk' }) →
    codeAny (model prog w) (ktrTop dp un gd cn cs L a ccd cl outer) (.call (.ref f) args) RR s

def flowV : Flow → Value
  | .ret v => v
  | _ => .none

def BodyPost (g : Heap) (L : Addr) (R : List (Addr × Obj)) (post : Value → List (Addr × Obj) → Prop) (s : Shared) (fl : Flow) (s' : Shared) : Prop :=
  ∃ l h' tk' m', s' = { s with heap := h', toks := tk' } ∧ post (flowV fl) l ∧ Fr g L h' m' ∧ News g L h' (l ++ R) ∧ Sep l R

theorem BodyPost.intro {g : Heap} {L : Addr} {R : List (Addr × Obj)} {post : Value → List (Addr × Obj) → Prop} {s : Shared} {fl : Flow} {h' : Heap} {tk' : Nat} {m' : Str → Option Value} (l : List (Addr × Obj))
    (F : Fr g L h' m') (N : News g L h' (l ++ R)) (S : Sep l R) (hp : post (flowV fl) l) : BodyPost g L R post s fl { s with heap := h', toks := tk' } := ⟨l, h', tk', m', rfl, hp, F, N, S⟩

theorem Ctr.intro {prog : Program} {w : World} {K : Frag} {p : Program} {loose : List Str} {mean : ExcName → Option Value} {mg mb : Str → Option Value} {f : Addr} {dk uk : Nat} {args : Args} {pre ro : List (Addr × Obj)} {post : Value → List (Addr × Obj) → Prop}
    {name qual : Str} {params : Arguments} {body : List Stmt} {scope : Scope} {dV kV doc pm cdv ct oc : Value} {an od : Option Addr} {osl : Array (Option Value)} {binds : List (Str × Value)} (ps : List (Str × Value))
    (ho : K.lookup f = some ⟨oc, od, .func (fnOf name qual params body scope dV kV doc pm an cdv ct), osl⟩) (hcd : codeIn K cdv qual = true)
    (hbind : ∀ s : Shared, K.In s.heap → BindsTo s (fnOf name qual params body scope dV kV doc pm an cdv ct) args binds)
    (hloc : ∀ y ∈ binds, scope.names.lookup y.1 = some .local) (hps : ∀ q ∈ ps, binds.reverse.lookup q.1 = some q.2)
    (hco : scope.isCoroutine = false) (hgen : scope.isGenerator = false) (hk : scope.kind = .function) (hcell : ∀ x ∈ scope.names, x.2 ≠ .cell) (hdk : 1 ≤ dk)
    (hb : ∀ (d u : Nat) (gd : Option (List Code)) (outer : List Env) (A₀ : Around) (base g : Heap) (L : Addr) (m : Str → Option Value) (R : List (Addr × Obj)) (s : Shared),
      Below A₀ base outer g → Fr g L s.heap (kstB m ps) → K.In g → News g L s.heap (pre ++ R) → Sep pre R → (∀ q ∈ ro, q ∈ R) → Top p loose mean mg mb g → d + (dk - 1) ≤ recursionLimit → u + uk ≤ cLine + 3 →
      wpAny (model prog w) (ktrTop d u gd qual scope L f cdv [] outer) (execs body (envX qual scope L f cdv [])) (BodyPost g L R post s) (fun _ _ => False) s) :
    Ctr prog w K p loose mean mg mb f dk uk args pre ro post := by
  intro dp un gd cn cs a ccd cl outer A₀ base h₀ L m R s RR B F X N S hro T hcs hd hu hret
  refine code_def B F X N T rfl rfl hcs ho hcd (Nat.lt_of_lt_of_le (Nat.lt_add_of_pos_right hdk) hd) (hbind s (X.keeps F.keep)) hloc (fun g L' h₁ FG F' N' B' X' T' => ?_) hco hgen hk hcell
  have F₁ : Fr g L' h₁ (kstB (fun y => binds.reverse.lookup y) ps) := fr_env ps hps F'
  refine wpAny_mono (hb (dp + 1) (un + 3) gd (envX cn cs L a ccd cl :: outer) (ktrTop dp un gd cn cs L a ccd cl outer) base g L' _ R { s with heap := h₁, toks := s.toks + binds.length } B' F₁ X' N' S hro T' (by omega) (by omega)) (fun fl s' h => ?_) (fun _ _ h => h.elim)
  obtain ⟨l, h', tk', m', rfl, hp, F₂, N₂, S₂⟩ := h
  refine leaveK_ F₂ N₂ fun F₃ N₃ => ?_
  have := hret (flowV fl) l h' tk' hp F₃ N₃ S₂
  cases fl <;> exact this

theorem Ctr.use {prog : Program} {w : World} {K : Frag} {p : Program} {loose : List Str} {mean : ExcName → Option Value} {mg mb : Str → Option Value} {f : Addr} {dk uk : Nat} {pos : List Value} {kw : List (Str × Value)} {pre ro : List (Addr × Obj)} {post : Value → List (Addr × Obj) → Prop}
    {dp un : Nat} {gd : Option (List Code)} {cn : Str} {cs : Scope} {a : Addr} {ccd : Value} {cl : List (Str × Addr)} {outer : List Env} {A₀ : Around} {base h₀ : Heap} {L : Addr} {m : Str → Option Value} {s : Shared} {Q E : Value → Shared → Prop} (R : List (Addr × Obj))
    (C : Ctr prog w K p loose mean mg mb f dk uk ⟨pos, kw⟩ pre ro post)
    (B : Below A₀ base outer h₀) (F : Fr h₀ L s.heap m) (X : K.In h₀) (T : Top p loose mean mg mb h₀) (hcs : cs.kind = .function) (N : News h₀ L s.heap (pre ++ R)) (S : Sep pre R) (hro : ∀ q ∈ ro, q ∈ R) (hd : dp + dk ≤ recursionLimit) (hu : un + uk ≤ cLine)
    (h : ∀ v l h' tk', post v l → Fr h₀ L h' m → News h₀ L h' (l ++ R) → Sep l R → Q v { s with heap := h', toks := tk' }) :
    wpAny (model prog w) (ktrTop dp un gd cn cs L a ccd cl outer) (call (.ref f) pos kw) Q E s :=
  wpAny_call (C dp un gd cn cs a ccd cl outer A₀ base h₀ L m R s _ B F X N S hro T hcs hd hu h)
end Mine
namespace Mine
theorem Sep.sl {l l' R : List (Addr × Obj)} (D : Sep l R) (h : l'.Sublist l) : Sep l' R := ⟨(h.map _).nodup D.1, fun p hp q hq => D.2 p hp q (h.subset hq)⟩
theorem At.inl {d : Addr} {o o' : Obj} {a a' b : List (Addr × Obj)} (h : At d o o' a a') : At d o o' (a ++ b) (a' ++ b) := by
  induction h with
  | head => exact .head
  | tail _ ih => exact .tail ih
theorem At.inr {d : Addr} {o o' : Obj} {a b b' : List (Addr × Obj)} (h : At d o o' b b') : At d o o' (a ++ b) (a ++ b') := by
  induction a with
  | nil => exact h
  | cons _ _ ih => exact .tail ih
theorem Sep.at {d : Addr} {o o' : Obj} {l l' R : List (Addr × Obj)} (S : Sep l R) (h : At d o o' l l') : Sep l' R := S.congr h.map

section
variable {prog : Program} {w : World} {A : Around} {E : Value → Shared → Prop} {s : Shared} {h₀ : Heap} {L : Addr} {m : Str → Option Value} {l l' R : List (Addr × Obj)}
theorem append_S {D : Addr} {its : List Value} {n : Nat} {x : Value} {Q : Value → Shared → Prop} (F : Fr h₀ L s.heap m) (N : News h₀ L s.heap (l ++ R)) (S : Sep l R) (U : At D (listOf its.toArray n) (listOf (its ++ [x]).toArray (n + 1)) l l')
    (h : ∀ h', Fr h₀ L h' m → News h₀ L h' (l' ++ R) → Sep l' R → Q .none { s with heap := h' }) (hsz : its.length ≤ sizeLine := by size_fits) : wpAny (model prog w) A (call (.builtin "list.append") [.ref D, x]) Q E s :=
  append_K (its := its.toArray) F N (news' := l' ++ R) (by rw [List.push_toArray]; exact U.upd S) (fun h' F' N' => h h' F' N' (S.at U)) (by rw [List.size_toArray]; exact hsz)

theorem newList_S {vs : List Value} {Q : Value → Shared → Prop} (F : Fr h₀ L s.heap m) (N : News h₀ L s.heap (l ++ R)) (S : Sep l R)
    (h : ∀ a h', Fr h₀ L h' m → News h₀ L h' (((a, listOf vs.toArray 0) :: l) ++ R) → Sep ((a, listOf vs.toArray 0) :: l) R → Q (.ref a) { s with heap := h' }) (hsz : vs.length ≤ sizeLine := by size_fits) :
    wpAny (model prog w) A (newList vs) Q E s :=
  newList_N F N (fun h' F' N' => h _ h' F' N' (S.new fun p hp => Heap.lt_size (N p hp).1)) hsz
abbrev tupOf (vs : List Value) : Obj := { cls := .type "tuple", data := .seq vs.toArray }
theorem newTuple_S {vs : List Value} {Q : Value → Shared → Prop} (F : Fr h₀ L s.heap m) (N : News h₀ L s.heap (l ++ R)) (S : Sep l R)
    (h : ∀ a h', Fr h₀ L h' m → News h₀ L h' (((a, tupOf vs) :: l) ++ R) → Sep ((a, tupOf vs) :: l) R → Q (.ref a) { s with heap := h' }) (hsz : vs.length ≤ sizeLine := by size_fits) :
    wpAny (model prog w) A (newTuple vs) Q E s :=
  newTuple_N F N (fun h' F' N' => h _ h' F' N' (S.new fun p hp => Heap.lt_size (N p hp).1)) hsz
theorem join_S {D : Addr} {us : List Value} {n : Nat} {ys : List Str} {x : Str} {t : Tok} {Q : Value → Shared → Prop} (N : News h₀ L s.heap (l ++ R)) (hm : (D, listOf us.toArray n) ∈ l ++ R) (hi : PyProof.Rows.StrsAre us ys) (hsep : x.length ≤ 16) (hw : (ys.map (·.length)).sum + ys.length ≤ 1048576)
    (h : ∀ t' k, Q (.str (Txt.join x ys) t') { s with toks := k }) : wpAny (model prog w) A (call (.builtin "str.join") [.str x t, .ref D]) Q E s :=
  PyProof.Rows.join_listW (News.isList N hm) (by simpa using hi) hsep hw h
end
end Mine

namespace Mine
theorem ite_any {c : Prop} [Decidable c] {a b : Prop} (h1 : c → a) (h2 : ¬ c → b) : if c then a else b := by split <;> simp_all
end Mine
namespace Mine
theorem LoopPost.next {h₀ : Heap} {L : Addr} {R nx' : List (Addr × Obj)} {Jn : (Str → Option Value) → List (Addr × Obj) → Prop} {s : Shared} {Q : Flow → Shared → Prop} {h' : Heap} {tk : Nat} {m' : Str → Option Value}
    (F : Fr h₀ L h' m') (N : News h₀ L h' (nx' ++ R)) (S : Sep nx' R) (hj : Jn m' nx') : LoopPost h₀ L R Jn s Q .next { s with heap := h', toks := tk } := ⟨h', tk, m', nx', rfl, F, N, S, hj⟩
theorem drop_cons {α : Type} {a : Array α} {i : Nat} {c : α} (h : a[i]? = some c) : a.toList.drop i = c :: a.toList.drop (i + 1) := by
  obtain ⟨hi, rfl⟩ := Array.getElem?_eq_some_iff.mp h
  have : i < a.toList.length := by simpa using hi
  rw [List.drop_eq_getElem_cons this]
  simp
end Mine
namespace Mine
theorem LoopPost.ret {h₀ : Heap} {L : Addr} {R : List (Addr × Obj)} {Jn : (Str → Option Value) → List (Addr × Obj) → Prop} {s s₂ : Shared} {Q : Flow → Shared → Prop} {v : Value} (h : Q (.ret v) s₂) : LoopPost h₀ L R Jn s Q (.ret v) s₂ := h
theorem LoopPost.brk {h₀ : Heap} {L : Addr} {R : List (Addr × Obj)} {Jn : (Str → Option Value) → List (Addr × Obj) → Prop} {s s₂ : Shared} {Q : Flow → Shared → Prop} (h : Q .next s₂) : LoopPost h₀ L R Jn s Q .brk s₂ := h
theorem LoopPost.cont {h₀ : Heap} {L : Addr} {R nx' : List (Addr × Obj)} {Jn : (Str → Option Value) → List (Addr × Obj) → Prop} {s : Shared} {Q : Flow → Shared → Prop} {h' : Heap} {tk : Nat} {m' : Str → Option Value}
    (F : Fr h₀ L h' m') (N : News h₀ L h' (nx' ++ R)) (S : Sep nx' R) (hj : Jn m' nx') : LoopPost h₀ L R Jn s Q .cont { s with heap := h', toks := tk } := ⟨h', tk, m', nx', rfl, F, N, S, hj⟩
theorem join_empty_le (ls : List Str) : (Txt.join (Str.ofString "") ls).length ≤ (ls.map (·.length)).sum := by
  have h := PySem.StrLaws.join_length_le (Str.ofString "") ls
  have e : (Str.ofString "").length = 0 := by decide
  rw [e, Nat.mul_zero, Nat.add_zero, ← PySem.StrLaws.glued_eq_join] at h
  exact h
end Mine
namespace Mine
theorem BodyPost.keep {g : Heap} {L : Addr} {R l l' own : List (Addr × Obj)} {post : Value → List (Addr × Obj) → Prop} {s : Shared} {fl : Flow} {h' : Heap} {tk' : Nat} {m' : Str → Option Value}
    (F : Fr g L h' m') (N : News g L h' (l' ++ (own ++ R))) (S : Sep l' (own ++ R)) (hl : l.Sublist l') (hp : post (flowV fl) l) : BodyPost g L R post s fl { s with heap := h', toks := tk' } :=
  ⟨l, h', tk', m', rfl, hp, F, fun p h => N p ((List.mem_append.mp h).elim (fun h => List.mem_append_left _ (hl.subset h)) fun h => List.mem_append_right _ (List.mem_append_right _ h)), (S.sl hl).sub fun _ h => List.mem_append_right _ h⟩
theorem BodyPost.one {g : Heap} {L : Addr} {R rest own : List (Addr × Obj)} {q : Addr × Obj} {post : Value → List (Addr × Obj) → Prop} {s : Shared} {fl : Flow} {h' : Heap} {tk' : Nat} {m' : Str → Option Value}
    (F : Fr g L h' m') (N : News g L h' ((q :: rest) ++ (own ++ R))) (S : Sep (q :: rest) (own ++ R)) (hp : post (flowV fl) [q]) : BodyPost g L R post s fl { s with heap := h', toks := tk' } :=
  BodyPost.keep F N S (List.Sublist.cons_cons _ (List.nil_sublist _)) hp
theorem BodyPost.one' {g : Heap} {L : Addr} {R rest : List (Addr × Obj)} {q : Addr × Obj} {post : Value → List (Addr × Obj) → Prop} {s : Shared} {fl : Flow} {h' : Heap} {tk' : Nat} {m' : Str → Option Value}
    (F : Fr g L h' m') (N : News g L h' ((q :: rest) ++ R)) (S : Sep (q :: rest) R) (hp : post (flowV fl) [q]) : BodyPost g L R post s fl { s with heap := h', toks := tk' } :=
  BodyPost.one (own := []) F N S hp
end Mine
namespace Mine
def NextTo (P : Shared → Prop) (f : Flow) (s' : Shared) : Prop := f = .next ∧ P s'
theorem execs_cut {M : Model} {A : Around} {E : Value → Shared → Prop} {env : Env} {Q : Flow → Shared → Prop} {s : Shared} {st : Stmt} {rest : List Stmt} (P : Shared → Prop)
    (h1 : wpAny M A (exec st env) (NextTo P) E s) (h2 : ∀ s', P s' → wpAny M A (execs rest env) Q E s') : wpAny M A (execs (st :: rest) env) Q E s :=
  wpAny_execs_cons (wpAny_mono h1 (fun f s' h => by obtain ⟨rfl, hp⟩ := h; exact h2 s' hp) fun _ _ h => h)
end Mine
namespace Mine
/-- how a state lies: the frame's names ps, the open cells nx -/
def LS (g : Heap) (L : Addr) (R : List (Addr × Obj)) (s : Shared) (ps : List (Str × Value)) (nx : List (Addr × Obj)) (s' : Shared) : Prop :=
  ∃ h' tk' m', s' = { s with heap := h', toks := tk' } ∧ Fr g L h' (kstB m' ps) ∧ News g L h' (nx ++ R) ∧ Sep nx R
theorem LS.intro {g h' : Heap} {L : Addr} {R : List (Addr × Obj)} {s : Shared} {tk' : Nat} {m' : Str → Option Value} {ps : List (Str × Value)} {nx : List (Addr × Obj)}
    (F : Fr g L h' m') (N : News g L h' (nx ++ R)) (S : Sep nx R) (hp : ∀ q ∈ ps, m' q.1 = some q.2) : LS g L R s ps nx { s with heap := h', toks := tk' } := ⟨h', tk', m', rfl, fr_env _ hp F, N, S⟩
theorem LS.keep {g h' : Heap} {L : Addr} {R own : List (Addr × Obj)} {s : Shared} {tk' : Nat} {m' : Str → Option Value} {ps : List (Str × Value)} {nx nx' : List (Addr × Obj)}
    (F : Fr g L h' m') (N : News g L h' (nx' ++ (own ++ R))) (S : Sep nx' (own ++ R)) (hl : nx.Sublist nx') (hp : ∀ q ∈ ps, m' q.1 = some q.2) : LS g L R s ps nx { s with heap := h', toks := tk' } :=
  LS.intro F (fun p h => N p ((List.mem_append.mp h).elim (fun h => List.mem_append_left _ (hl.subset h)) fun h => List.mem_append_right _ (List.mem_append_right _ h))) ((S.sl hl).sub fun _ h => List.mem_append_right _ h) hp
theorem LS.keep' {g h' : Heap} {L : Addr} {R : List (Addr × Obj)} {s : Shared} {tk' : Nat} {m' : Str → Option Value} {ps : List (Str × Value)} {nx nx' : List (Addr × Obj)}
    (F : Fr g L h' m') (N : News g L h' (nx' ++ R)) (S : Sep nx' R) (hl : nx.Sublist nx') (hp : ∀ q ∈ ps, m' q.1 = some q.2) : LS g L R s ps nx { s with heap := h', toks := tk' } := LS.keep (own := []) F N S hl hp
end Mine
namespace Mine
theorem news_mid {h₀ h : Heap} {L : Addr} {a b : Addr × Obj} {R : List (Addr × Obj)} (N : News h₀ L h (a :: b :: R)) : News h₀ L h ([a] ++ R) :=
  fun p hp => N p ((List.mem_cons.mp hp).elim (fun e => e ▸ .head _) fun h => .tail _ (.tail _ h))
end Mine
namespace Mine
section
variable {prog : Program} {w : World} {K : Frag} {p : Program} {loose : List Str} {mean : ExcName → Option Value} {mg mb : Str → Option Value} {f : Addr} {dk uk : Nat} {pos : List Value} {kw : List (Str × Value)} {pre ro nx cur R : List (Addr × Obj)} {post : Value → List (Addr × Obj) → Prop}
  {dp un : Nat} {gd : Option (List Code)} {cn : Str} {cs : Scope} {a : Addr} {ccd : Value} {cl : List (Str × Addr)} {outer : List Env} {A₀ : Around} {base h₀ : Heap} {L : Addr} {m : Str → Option Value} {s : Shared} {Q E : Value → Shared → Prop}
theorem use_post (S : Sep (pre ++ nx) R) {h' : Heap} {l : List (Addr × Obj)} (N' : News h₀ L h' (l ++ (nx ++ R))) (S' : Sep l (nx ++ R)) : News h₀ L h' ((l ++ nx) ++ R) ∧ Sep (l ++ nx) R := by
  refine ⟨by rw [List.append_assoc]; exact N', S'.open ?_⟩
  refine ⟨?_, fun q hq r hr => S.2 q hq r (List.mem_append_right _ hr)⟩
  have := S.1
  rw [List.map_append] at this
  exact (List.nodup_append.mp this).2.1
/-- a call by its contract, the caller's open cells brought into order -/
theorem Ctr.useP (C : Ctr prog w K p loose mean mg mb f dk uk ⟨pos, kw⟩ pre ro post)
    (B : Below A₀ base outer h₀) (X : K.In h₀) (T : Top p loose mean mg mb h₀) (hcs : cs.kind = .function) (F : Fr h₀ L s.heap m) (N : News h₀ L s.heap (cur ++ R)) (S : Sep cur R) (hp : (pre ++ nx).Perm cur) (hro : ∀ q ∈ ro, q ∈ nx ++ R) (hd : dp + dk ≤ recursionLimit) (hu : un + uk ≤ cLine)
    (h : ∀ v l h' tk', post v l → Fr h₀ L h' m → News h₀ L h' ((l ++ nx) ++ R) → Sep (l ++ nx) R → Q v { s with heap := h', toks := tk' }) :
    wpAny (model prog w) (ktrTop dp un gd cn cs L a ccd cl outer) (call (.ref f) pos kw) Q E s := by
  have S₁ : Sep (pre ++ nx) R := S.perm hp
  have N₁ : News h₀ L s.heap (pre ++ (nx ++ R)) := by
    rw [← List.append_assoc]
    exact news_sub N fun q hq => (List.mem_append.mp hq).elim (fun hq => List.mem_append_left _ (hp.mem_iff.mp hq)) (List.mem_append_right _)
  refine Ctr.use (nx ++ R) C B F X T hcs N₁ S₁.shut hro hd hu fun v l h' tk' hpost F' N' S' => ?_
  obtain ⟨N₂, S₂⟩ := use_post S₁ N' S'
  exact h v l h' tk' hpost F' N₂ S₂
theorem Ctr.use1 (C : Ctr prog w K p loose mean mg mb f dk uk ⟨pos, kw⟩ pre ro post)
    (B : Below A₀ base outer h₀) (X : K.In h₀) (T : Top p loose mean mg mb h₀) (hcs : cs.kind = .function) (F : Fr h₀ L s.heap m) (N : News h₀ L s.heap ((pre ++ nx) ++ R)) (S : Sep (pre ++ nx) R) (hro : ∀ q ∈ ro, q ∈ nx ++ R) (hd : dp + dk ≤ recursionLimit) (hu : un + uk ≤ cLine)
    (h : ∀ v l h' tk', post v l → Fr h₀ L h' m → News h₀ L h' ((l ++ nx) ++ R) → Sep (l ++ nx) R → Q v { s with heap := h', toks := tk' }) :
    wpAny (model prog w) (ktrTop dp un gd cn cs L a ccd cl outer) (call (.ref f) pos kw) Q E s :=
  Ctr.useP C B X T hcs F N S (List.Perm.refl _) hro hd hu h
theorem Ctr.use0 (C : Ctr prog w K p loose mean mg mb f dk uk ⟨pos, kw⟩ [] ro post)
    (B : Below A₀ base outer h₀) (X : K.In h₀) (T : Top p loose mean mg mb h₀) (hcs : cs.kind = .function) (F : Fr h₀ L s.heap m) (N : News h₀ L s.heap (nx ++ R)) (S : Sep nx R) (hro : ∀ q ∈ ro, q ∈ nx ++ R) (hd : dp + dk ≤ recursionLimit) (hu : un + uk ≤ cLine)
    (h : ∀ v l h' tk', post v l → Fr h₀ L h' m → News h₀ L h' ((l ++ nx) ++ R) → Sep (l ++ nx) R → Q v { s with heap := h', toks := tk' }) :
    wpAny (model prog w) (ktrTop dp un gd cn cs L a ccd cl outer) (call (.ref f) pos kw) Q E s :=
  Ctr.useP (pre := []) C B X T hcs F N S (List.Perm.refl _) hro hd hu h
end
theorem item_S {prog : Program} {w : World} {A : Around} {E : Value → Shared → Prop} {s : Shared} {h₀ : Heap} {L : Addr} {l : List (Addr × Obj)} {value slice : PySem.Expr} {a : Addr} {vs : List Value} {n : Nat} {k : Int} {u : Tok} {v : Value} {Q : Value → Shared → Prop}
    (N : News h₀ L s.heap l) (hm : (a, listOf vs.toArray n) ∈ l) (h0 : 0 ≤ k) (hhi : k < 2 ^ 63) (hx : vs[k.toNat]? = some v) (h : Q v s)
    (hs : subscripted slice false (.ref a) (.int k u) = operate [.ref a, .int k u] (getItem (.ref a) (.int k u))) :
    wpAny (model prog w) A (subscriptTail value slice (.ref a) (.int k u)) Q E s := item_litK (News.isList N hm) h0 hhi hx h hs
end Mine
namespace Mine
theorem LoopPost.nextK {h₀ : Heap} {L : Addr} {R nx nx' : List (Addr × Obj)} {Jn : (Str → Option Value) → List (Addr × Obj) → Prop} {s : Shared} {Q : Flow → Shared → Prop} {h' : Heap} {tk : Nat} {m' : Str → Option Value}
    (F : Fr h₀ L h' m') (N : News h₀ L h' (nx' ++ R)) (S : Sep nx' R) (hl : nx.Sublist nx') (hj : Jn m' nx) : LoopPost h₀ L R Jn s Q .next { s with heap := h', toks := tk } :=
  LoopPost.next F (fun p h => N p ((List.mem_append.mp h).elim (fun h => List.mem_append_left _ (hl.subset h)) (List.mem_append_right _))) (S.sl hl) hj
theorem LoopPost.contK {h₀ : Heap} {L : Addr} {R nx nx' : List (Addr × Obj)} {Jn : (Str → Option Value) → List (Addr × Obj) → Prop} {s : Shared} {Q : Flow → Shared → Prop} {h' : Heap} {tk : Nat} {m' : Str → Option Value}
    (F : Fr h₀ L h' m') (N : News h₀ L h' (nx' ++ R)) (S : Sep nx' R) (hl : nx.Sublist nx') (hj : Jn m' nx) : LoopPost h₀ L R Jn s Q .cont { s with heap := h', toks := tk } :=
  LoopPost.cont F (fun p h => N p ((List.mem_append.mp h).elim (fun h => List.mem_append_left _ (hl.subset h)) (List.mem_append_right _))) (S.sl hl) hj

theorem mul_cps (y : Str) {n : Int} (h1 : 1 ≤ n) : (Txt.mul y n).cps.toList = (List.replicate n.toNat y.cps.toList).flatten := by
  have fold : ∀ (k : Nat) (acc : Array Nat), ((List.replicate k y.cps).foldl (· ++ ·) acc).toList = acc.toList ++ (List.replicate k y.cps.toList).flatten := by
    intro k
    induction k with
    | zero => intro acc; simp
    | succ k ih => intro acc; rw [List.replicate_succ, List.foldl_cons, ih, List.replicate_succ, List.flatten_cons]; simp
  unfold Txt.mul
  rw [if_neg (by omega)]
  split
  · rename_i h
    rcases Bool.or_eq_true_iff.mp h with h | h
    · have : n = 1 := by simpa using h
      subst this; simp
    · have e : y.cps.toList = [] := by
        have : y.cps.size = 0 := by simpa [Str.length] using h
        simpa using this
      rw [e]; simp
  · have := fold n.toNat #[]
    simpa using this
theorem mul_len (y : Str) {n : Int} (h1 : 1 ≤ n) : (Txt.mul y n).length = n.toNat * y.length := by
  have := congrArg List.length (mul_cps y h1)
  simpa [Str.length, List.length_flatten] using this
theorem mul_all {y : Str} {n : Int} (h1 : 1 ≤ n) {P : Nat → Prop} (h : ∀ c ∈ y.cps.toList, P c) : ∀ c ∈ (Txt.mul y n).cps.toList, P c := by
  intro c hc
  rw [mul_cps y h1] at hc
  obtain ⟨l, hl, hc⟩ := List.mem_flatten.mp hc
  rw [(List.mem_replicate.mp hl).2] at hc
  exact h c hc
theorem cat_all {x y : Str} {P : Nat → Prop} (hx : ∀ c ∈ x.cps.toList, P c) (hy : ∀ c ∈ y.cps.toList, P c) : ∀ c ∈ (x ++ y).cps.toList, P c := by
  intro c hc
  rw [Str.cps_append, Array.toList_append] at hc
  exact (List.mem_append.mp hc).elim (hx c) (hy c)
end Mine
namespace Mine
theorem len_S {prog : Program} {w : World} {A : Around} {E : Value → Shared → Prop} {s : Shared} {h₀ : Heap} {L : Addr} {l : List (Addr × Obj)} {a : Addr} {vs : List Value} {n : Nat} {Q : Value → Shared → Prop}
    (N : News h₀ L s.heap l) (hm : (a, listOf vs.toArray n) ∈ l) (hz : vs.length ≤ sizeLine) (h : Q (.int vs.length (s.toks + 1)) { s with toks := s.toks + 1 + 1 }) : wpAny (model prog w) A (call (.builtin "len") [.ref a]) Q E s :=
  call_len_list (News.isList N hm) (by rw [List.size_toArray]; have := sizeLine_eq; omega) (by rw [List.size_toArray]; exact h)
end Mine

namespace Mine
theorem range_size (b : Int) : Builtin.Range.rangeSize 0 b 1 = max b 0 := by
  unfold Builtin.Range.rangeSize
  rw [if_pos (by decide)]
  split <;> omega
theorem fitsLong_of {b : Int} (h : b ≤ 100000) (h0 : -100000 ≤ b) : Builtin.Range.rangeFitsLong b = true := by
  unfold Builtin.Range.rangeFitsLong
  simp
  omega
theorem range_small (b : Int) (h : b ≤ 100000) (h0 : -100000 ≤ b) : Builtin.Range.small 0 b 1 = true := by
  unfold Builtin.Range.small
  rw [range_size, fitsLong_of (by omega) (by omega), fitsLong_of h h0, fitsLong_of (by omega) (by omega), fitsLong_of (b := max b 0) (by omega) (by omega), if_pos (by decide), fitsLong_of (by omega) (by omega)]
  simp
end Mine
namespace Mine
theorem pick_upto {vs : List Value} {y : Int} (h : 0 ≤ y) : slicePick vs.toArray none (some y) none = (vs.take y.toNat).toArray := by
  have e : sliceBounds none (some y) none vs.toArray.size = (((0 : Nat) : Int), ((min y.toNat vs.toArray.size : Nat) : Int), 1) := by
    simp only [sliceBounds, Option.getD_none, show (1 : Int) > 0 by decide, if_true, if_neg (show ¬ (y < 0) by omega)]
    congr 1
    congr 1
    omega
  rw [kmk_pick_nat _ e]
  show ((vs.drop 0).take (min y.toNat vs.toArray.size - 0)).toArray = _
  rw [List.drop_zero, Nat.sub_zero, List.size_toArray, kmk_take_min]
section
variable {prog : Program} {w : World} {A : Around} {E : Value → Shared → Prop} {s : Shared} {env : Env} {h₀ : Heap} {m : Str → Option Value} {nx R : List (Addr × Obj)}
theorem comp_list {scope : Scope} {x : Str} {elt : Expr} {Q : Value → Shared → Prop} {l : Addr} {vs : List Value} (G : Value → Value → Prop)
    (hh : A.handled = none) (hl : s.heap.IsList l vs.toArray) (hz : vs.length ≤ sizeLine) (F : Fr h₀ env.locals s.heap m) (N : News h₀ env.locals s.heap (nx ++ R)) (S : Sep nx R)
    (helt : ∀ C v s₃ m₃ E', v ∈ vs → s₃.heap.Ns C m₃ → m₃ x = some v → wpAny (model prog w) A (eval elt (compEnv scope C env)) (fun y s₄ => G v y ∧ Keeps s₃ s₄) E' s₃)
    (hQ : ∀ a ys n h' tk, Paired G vs ys → Fr h₀ env.locals h' m → News h₀ env.locals h' (((a, listOf ys.toArray n) :: nx) ++ R) → Sep ((a, listOf ys.toArray n) :: nx) R → Q (.ref a) { s with heap := h', toks := tk }) :
    wpAny (model prog w) A (pyIter (.ref l)) (CompPost prog w A env scope x [] elt Q) E s := by
  have hlt : l < s.heap.objs.size := by obtain ⟨o, ho, _⟩ := id hl; exact Heap.lt_size ho
  have hne : l ≠ s.heap.objs.size := Nat.ne_of_lt hlt
  refine wpAny_pyIter_list hl ?_
  have W := Walks.list (prog := prog) (w := w) hh s.heap.objs.size l hne vs.toArray
  rw [List.size_toArray] at W
  refine ⟨fun _ => true, G, _, _, _, vs.length, _, _, rfl, W, hz, ⟨⟨_, Heap.get?_push_size _ rfl, rfl, rfl⟩, hl.at fun o e => Heap.get?_push_of_some _ e⟩, ?_, ⟨?_, ?_⟩, ?_⟩
  · intro b hb
    rw [Heap.size_push]
    rcases List.mem_cons.mp hb with e | hb
    · rw [e]; exact Nat.lt_succ_self _
    · rw [List.mem_singleton.mp hb]; exact Nat.lt_succ_of_lt hlt
  · intro C i v s₃ m₃ E' _ _ _ _ _
    exact wpAny_pure ⟨rfl, s₃.heap, s₃.toks, rfl, fun _ _ e => e⟩
  · intro C i v s₃ m₃ E' hv _ hn hm _ _
    exact helt C v s₃ m₃ E' (List.mem_of_getElem? (by simpa using hv)) hn hm
  · rintro D h' tk ys us hD _ ⟨n, hpl⟩ hlen hP hF hk
    have e : us = vs := by
      refine List.ext_getElem? fun j => ?_
      by_cases hj : j < us.length
      · have := hP j us[j] (List.getElem?_eq_getElem hj)
        rw [List.getElem?_eq_getElem hj]
        simpa using this.symm
      · rw [List.getElem?_eq_none (Nat.le_of_not_lt hj), List.getElem?_eq_none (by omega)]
    subst e
    have hF' : Paired G us ys.toList := by
      have : us.filter (fun _ => true) = us := List.filter_eq_self.mpr fun _ _ => rfl
      rwa [this] at hF
    have hk' : ∀ b o, s.heap.get? b = some o → h'.get? b = some o := fun b o e => hk b o (fun hb => absurd (Heap.lt_size e) ((List.mem_singleton.mp hb) ▸ Nat.lt_irrefl _)) (Heap.get?_push_of_some _ e)
    have hDn : s.heap.get? D = none := by
      cases q : s.heap.get? D with
      | none => rfl
      | some o => rw [Heap.get?_push_of_some _ q] at hD; cases hD
    have hL : D ≠ env.locals := fun e => by obtain ⟨o, _, _, ho, _⟩ := F.ns; rw [← e, hDn] at ho; cases ho
    refine hQ D ys.toList n h' tk hF' ⟨F.ns.at' fun o e => hk' _ _ e, fun b o e => hk' b o (F.keep b o e), F.above⟩ ?_ ?_
    · intro p hp
      rcases List.mem_cons.mp hp with rfl | hp
      · refine ⟨hpl, hL, ?_⟩
        cases q : h₀.get? D with
        | none => rfl
        | some o => rw [F.keep _ _ q] at hDn; cases hDn
      · exact ⟨hk' _ _ (N p hp).1, (N p hp).2⟩
    · refine Sep.cons (fun p hp e => ?_) S
      have := (N p hp).1
      rw [e, hDn] at this; cases this
end
end Mine
namespace Mine
/-- what an own object's dict says -/
def HasAttrs (es : List DictEntry) (k : Nat) (f : Str → Option Value) : Prop := (∀ e ∈ es, ∃ n t, e.key = .str n t) ∧ (∀ name, (es.find? (·.key.isStr name)).map (·.val) = f name) ∧ es.length ≤ k
theorem HasAttrs.nil : HasAttrs [] 0 fun _ => none := ⟨fun _ h => (nomatch h), fun _ => rfl, Nat.le_refl _⟩
theorem HasAttrs.getL {es : List DictEntry} {k : Nat} {f : Str → Option Value} (h : HasAttrs es k f) (name : Str) : getL name es = some (f name) := by
  have hr : es.any (·.refKey) = false := by
    rw [List.any_eq_false]
    intro e he
    obtain ⟨n, t, q⟩ := h.1 e he
    simp [DictEntry.refKey, q]
  unfold PySem.W.getL
  have h2 := h.2.1 name
  cases q : es.find? (·.key.isStr name) with
  | some e => rw [q] at h2; simpa using h2
  | none => rw [q] at h2; simp [hr]; simpa using h2
theorem isStr_str (n m : Str) (t : Tok) : (Value.str n t).isStr m = decide (n = m) := by
  unfold Value.isStr
  cases h : decide (n = m) with
  | true => simpa using h
  | false => simpa using h
theorem putL_len (name : Str) (hsh : Int) (key v : Value) : ∀ es : List DictEntry, (putL name hsh key v es).length ≤ es.length + 1
  | [] => by simp [putL]
  | e :: r => by
    unfold putL
    split
    · simp
    · have := putL_len name hsh key v r
      simp only [List.length_cons]; omega

theorem HasAttrs.putL {es : List DictEntry} {k : Nat} {f : Str → Option Value} (h : HasAttrs es k f) (name : Str) (hsh : Int) (t : Tok) (v : Value) : HasAttrs (putL name hsh (.str name t) v es) (k + 1) (fun y => if y = name then some v else f y) := by
  have key : ∀ (es : List DictEntry), (∀ e ∈ es, ∃ n t, e.key = .str n t) → (∀ e ∈ PySem.W.putL name hsh (.str name t) v es, ∃ n t, e.key = .str n t) ∧
      ∀ y, ((PySem.W.putL name hsh (.str name t) v es).find? (·.key.isStr y)).map (·.val) = if y = name then some v else (es.find? (·.key.isStr y)).map (·.val) := by
    intro es
    induction es with
    | nil =>
      intro _
      refine ⟨fun e he => ?_, fun y => ?_⟩
      · rw [List.mem_singleton.mp he]; exact ⟨name, t, rfl⟩
      · show (List.find? _ [(⟨hsh, .str name t, v⟩ : DictEntry)]).map _ = _
        rw [List.find?_cons]
        simp only [isStr_str]
        by_cases e : y = name
        · subst e; simp
        · rw [if_neg e]; simp [Ne.symm e]
    | cons e r ih =>
      intro hk
      obtain ⟨n, tn, hn⟩ := hk e (.head _)
      obtain ⟨i1, i2⟩ := ih fun e he => hk e (.tail _ he)
      unfold PySem.W.putL
      rw [hn, isStr_str]
      by_cases q : n = name
      · subst q
        simp only [decide_true, if_true]
        refine ⟨fun e' he' => ?_, fun y => ?_⟩
        · rcases List.mem_cons.mp he' with rfl | he'
          · exact ⟨n, tn, rfl⟩
          · exact hk _ (.tail _ he')
        · rw [List.find?_cons, List.find?_cons]
          simp only [isStr_str, hn]
          by_cases e' : y = n
          · subst e'; simp
          · rw [if_neg e']; simp [Ne.symm e']
      · simp only [decide_eq_false q, Bool.false_eq_true, if_false]
        refine ⟨fun e' he' => ?_, fun y => ?_⟩
        · rcases List.mem_cons.mp he' with rfl | he'
          · exact ⟨n, tn, hn⟩
          · exact i1 _ he'
        · rw [List.find?_cons, List.find?_cons]
          simp only [isStr_str, hn]
          by_cases e' : n = y
          · subst e'; simp [q]
          · simp only [decide_eq_false e']
            exact i2 y
  obtain ⟨k1, k2⟩ := key es h.1
  refine ⟨k1, fun y => ?_, Nat.le_trans (putL_len _ _ _ _ _) (Nat.succ_le_succ h.2.2)⟩
  rw [k2 y, h.2.1 y]
section
variable {prog : Program} {w : World} {A : Around} {E : Value → Shared → Prop} {s : Shared} {K : Frag} {x C dx L : Addr} {h₀ : Heap} {m : Str → Option Value} {l R : List (Addr × Obj)} {es : List DictEntry} {n : Nat} {name : Str} {v : Value} {f : Str → Option Value} {k : Nat}
theorem set_S {l' : List (Addr × Obj)} {Q : Unit → Shared → Prop} (F : Fr h₀ L s.heap m) (X₀ : K.In h₀) (N : News h₀ L s.heap (l ++ R)) (S : Sep l R) (hx : (x, instObj C dx) ∈ l ++ R)
    (hs : findIn K (.ref C) "__setattr__" = some (some (.builtin "object.__setattr__"))) (hp : plainOver K C = true) (ht : takerIn K C name = some none) (hh : hasDictIn K C = true)
    (U : At dx (dictOf es n) (dictOf (putL name (PyData.keyHash w.params name) (.str name (s.toks + 1)) v es) (putN name es n)) l l') (HA : HasAttrs es k f) (hz : k ≤ 100)
    (h : ∀ h', HasAttrs (putL name (PyData.keyHash w.params name) (.str name (s.toks + 1)) v es) (k + 1) (fun y => if y = name then some v else f y) →
      Fr h₀ L h' m → News h₀ L h' (l' ++ R) → Sep l' R → Q () { s with heap := h', toks := s.toks + 2 }) :
    wpAny (model prog w) A (setAttr (.ref x) name v) Q E s := by
  have hd : (dx, dictOf es n) ∈ l ++ R := List.mem_append_left _ U.mem
  refine set_dict F X₀ N (InstAt.of_news N hx hd) rfl hs hp ht hh (by rw [HA.getL]; rfl) rfl (U.upd S) (Nat.le_trans (putL_len _ _ _ _ _) (by have := HA.2.2; omega)) fun h' F' N' => ?_
  exact h h' (HA.putL _ _ _ _) F' N' (S.at U)
theorem get_S {expr : Bool} {Q : Value → Shared → Prop} {attr : Option Value} (F : Fr h₀ L s.heap m) (X₀ : K.In h₀) (N : News h₀ L s.heap l) (hx : (x, instObj C dx) ∈ l) (hd : (dx, dictOf es n) ∈ l) (HA : HasAttrs es k f) (hg : plainGet K C name = true) (hh : hasDictIn K C = true)
    (ha : findIn K (.ref C) name = some attr) (hn : noGet K attr = true) (hf : f name = some v) (hv : handedIn v = true) (h : Q v { s with toks := s.toks + 1 }) :
    wpAny (model prog w) A (getAttr (.ref x) name expr) Q E s :=
  get_own F X₀ (InstAt.of_news N hx hd) hg hh ha hn (by rw [HA.getL, hf]) hv h
theorem getCls_S {expr : Bool} {Q : Value → Shared → Prop} {a : Value} (F : Fr h₀ L s.heap m) (X₀ : K.In h₀) (N : News h₀ L s.heap l) (hx : (x, instObj C dx) ∈ l) (hd : (dx, dictOf es n) ∈ l) (HA : HasAttrs es k f) (hg : plainGet K C name = true) (hh : hasDictIn K C = true)
    (ha : findIn K (.ref C) name = some (some a)) (hn : specialIn K a "__get__" = some none) (hv : handedIn a = true) (hc : copiedNames.contains name = false) (hf : f name = none) (h : Q a { s with toks := s.toks + 1 }) :
    wpAny (model prog w) A (getAttr (.ref x) name expr) Q E s :=
  get_cls F X₀ (InstAt.of_news N hx hd) hg hh ha hn hv hc (by rw [HA.getL, hf]) h
theorem meth_S {pl : Sem Bool} {Q : Value × List Value → Shared → Prop} {fa : Addr} (F : Fr h₀ L s.heap m) (X₀ : K.In h₀) (N : News h₀ L s.heap l) (hx : (x, instObj C dx) ∈ l) (hd : (dx, dictOf es n) ∈ l) (HA : HasAttrs es k f) (hg : plainGet K C name = true)
    (hfn : findIn K (.ref C) name = some (some (.ref fa))) (ht : isFn K (.ref fa) = true) (hf : f name = none) (h : Q (.ref fa, [.ref x]) s) : wpAny (model prog w) A (getMethod (.ref x) name pl) Q E s :=
  method_inst F X₀ (InstAt.of_news N hx hd) hg hfn ht (by rw [HA.getL, hf]) h
end

section
variable {prog : Program} {w : World} {K : Frag} {p : Program} {loose : List Str} {mean : ExcName → Option Value} {mg mb : Str → Option Value} {fI C : Addr} {dk uk : Nat} {pos : List Value} {kw : List (Str × Value)} {pre ro nx cur R : List (Addr × Obj)}
  {dp un : Nat} {gd : Option (List Code)} {cn : Str} {cs : Scope} {a : Addr} {ccd : Value} {cl : List (Str × Addr)} {outer : List Env} {A₀ : Around} {base h₀ : Heap} {L : Addr} {m : Str → Option Value} {s : Shared} {Q E : Value → Shared → Prop}
theorem make_S {post : Addr → Addr → List (Addr × Obj) → Prop}
    (hm : makesIn K C = true) (hi : findIn K (.ref C) "__init__" = some (some (.ref fI))) (hf : isFn K (.ref fI) = true)
    (Cc : ∀ x dx, Ctr prog w K p loose mean mg mb fI dk uk ⟨.ref x :: pos, kw⟩ ((x, instObj C dx) :: (dx, dictOf [] 0) :: pre) ro (fun v l => v = .none ∧ post x dx l))
    (B : Below A₀ base outer h₀) (X : K.In h₀) (T : Top p loose mean mg mb h₀) (hcs : cs.kind = .function) (F : Fr h₀ L s.heap m) (N : News h₀ L s.heap (cur ++ R)) (S : Sep cur R) (hp : (pre ++ nx).Perm cur) (hro : ∀ q ∈ ro, q ∈ nx ++ R) (hd : dp + 1 + dk ≤ recursionLimit) (hu : un + 1 + uk ≤ cLine)
    (h : ∀ x dx l h' tk', post x dx l → Fr h₀ L h' m → News h₀ L h' ((l ++ nx) ++ R) → Sep (l ++ nx) R → Q (.ref x) { s with heap := h', toks := tk' }) :
    wpAny (model prog w) (ktrTop dp un gd cn cs L a ccd cl outer) (call (.ref C) pos kw) Q E s := by
  refine call_cls F X N hm hi hf fun x dx h' F' N' l1 l2 => ?_
  have S₁ : Sep ((x, instObj C dx) :: (dx, dictOf [] 0) :: cur) R := by
    refine Sep.new (Sep.new S l1) fun q hq => ?_
    rcases List.mem_cons.mp hq with rfl | hq
    · exact l2
    · exact Nat.lt_trans (l1 q hq) l2
  have hp' : (((x, instObj C dx) :: (dx, dictOf [] 0) :: pre) ++ nx).Perm ((x, instObj C dx) :: (dx, dictOf [] 0) :: cur) := (hp.cons _).cons _
  have S₂ : Sep (((x, instObj C dx) :: (dx, dictOf [] 0) :: pre) ++ nx) R := S₁.perm hp'
  have N₂ : News h₀ L h' (((x, instObj C dx) :: (dx, dictOf [] 0) :: pre) ++ (nx ++ R)) := by
    rw [← List.append_assoc]
    exact news_sub N' fun q hq => (List.mem_append.mp hq).elim (fun hq => List.mem_append_left (bs := R) (hp'.mem_iff.mp hq)) (List.mem_append_right (as := (x, instObj C dx) :: (dx, dictOf [] 0) :: cur))
  refine Cc x dx (dp + 1) (un + 1) gd cn cs a ccd cl outer A₀ base h₀ L m (nx ++ R) { s with heap := h' } _ B F' X N₂ S₂.shut hro T hcs hd hu fun v l h'' tk' hpost F'' N'' S'' => ?_
  obtain ⟨rfl, hpost⟩ := hpost
  obtain ⟨N₃, S₃⟩ := use_post S₂ N'' S''
  exact ⟨rfl, h x dx l h'' tk' hpost F'' N₃ S₃⟩
end
end Mine
namespace Mine
theorem newDict_S {prog : Program} {w : World} {A : Around} {E : Value → Shared → Prop} {s : Shared} {h₀ : Heap} {L : Addr} {m : Str → Option Value} {l R : List (Addr × Obj)} {env : Env} {pos : Pos} {Q : Value → Shared → Prop} (hbig : h₀.NoLimit) (F : Fr h₀ L s.heap m) (N : News h₀ L s.heap (l ++ R)) (S : Sep l R)
    (h : ∀ a h', Fr h₀ L h' m → News h₀ L h' (((a, dictOf [] 0) :: l) ++ R) → Sep ((a, dictOf [] 0) :: l) R → (a == sysModules) = false → Q (.ref a) { s with heap := h' }) :
    wpAny (model prog w) A (eval (.Dict [] [] pos) env) Q E s :=
  wpAny_Dict_empty (h _ _ (F.push _) (News.push F N _) (S.new fun p hp => Heap.lt_size (N p hp).1) (F.notModules (modules_low hbig)))
end Mine
end

section
namespace Mine
local macro_rules | `(tactic| walk_at "k_at") => `(tactic| first | (with_reducible exact At.head) | (refine' At.tail ?kt; case kt => walk_at "k_at") | (refine' At.inl ?kt; case kt => walk_at "k_at") | (refine' At.inr ?kt; case kt => walk_at "k_at"))
local macro_rules | `(tactic| walk_at "ite") => `(tactic| (k_openite; first | (refine ite_pos (by with_reducible assumption) ?_) | (refine ite_neg (by with_reducible assumption) ?_) | (refine ite_isFalse (by with_reducible assumption) ?_) | (refine split_bool ?_ ?_ <;> intro _) | (refine split_dec ?_ ?_ <;> intro _) | (refine Mine.ite_any ?_ ?_ <;> intro _)))
local macro_rules | `(tactic| walk_at "newList") => `(tactic| ((rename Sep _ _ => kS); k_dflt (refine' newList_S ?k1 ?k2 kS ?_ ?z; (case k1 => k_asm); (case k2 => k_asm); (case z => size_fits); k_whole); intro l' h' F' N' S'; clear kS; (try k_sweep)))
local macro_rules | `(tactic| walk_at "newTuple") => `(tactic| ((rename Sep _ _ => kS); k_dflt (refine' newTuple_S ?k1 ?k2 kS ?_ ?z; (case k1 => k_asm); (case k2 => k_asm); (case z => size_fits); k_whole); intro l' h' F' N' S'; clear kS; (try k_sweep)))
local macro_rules | `(tactic| walk_at "call builtin:list.append") => `(tactic| ((with_reducible show wpAny _ _ (call (Value.builtin _) [Value.ref _, _]) _ _ _); (rename Sep _ _ => kS); k_dflt (refine' append_S ?k1 ?k2 kS ?k3 ?_ ?z; (case k1 => k_asm); (case k2 => k_asm); (case k3 => walk_at "k_at"); (case z => first | with_reducible assumption | size_fits); k_whole); intro h' F' N' S'; clear kS; (try k_sweep)))
local macro_rules | `(tactic| walk_at "my_intro") => `(tactic| (
  (case ho => k_is); (case hcd => k_is)
  (case hbind => exact fun s X => (by first | exact BindsTo.of_eq rfl | exact binds_K X rfl (by k_is) rfl rfl rfl))
  (case hloc => exact locs rfl)
  (case hps => kst_all)
  (case hco => exact rfl); (case hgen => exact rfl); (case hk => exact rfl)
  (case hcell => decide)
  (case hdk => decide)))
local macro_rules | `(tactic| walk_at "call builtin:str.join") => `(tactic| ((with_reducible show wpAny _ _ (call (Value.builtin _) [Value.str _ _, Value.ref _]) _ _ _); k_dflt (refine' join_S ?N ?m ?i ?a ?b ?_; (case N => k_asm); (case m => k_mem); (case i => assumption); (case a => decide); (case b => first | assumption | omega); k_whole); intro t' k'))
local macro_rules | `(tactic| walk_at "go") => `(tactic| repeat' ((fail_if_success (with_reducible show wpAny _ _ (call (Value.ref _) _ _) _ _ _)); (fail_if_success (with_reducible show wpAny _ _ (pyIter _) _ _ _)); (fail_if_success (with_reducible show ∃ _, _)); first | walk1 | (dsimp only; walk1)))
local macro_rules | `(tactic| walk_at "subscriptTail") => `(tactic| ((with_reducible show wpAny _ _ (subscriptTail _ _ (Value.ref _) (Value.int _ _)) _ _ _); k_dflt (refine' item_S ?N ?m ?a ?b ?x ?_ ?s; (case N => k_asm); (case m => k_mem); (case a => first | with_reducible assumption | omega); (case b => first | with_reducible assumption | omega); (case x => with_reducible assumption); (case s => with_unfolding_all rfl); k_whole)))
local macro_rules | `(tactic| walk_at "call builtin:len") => `(tactic| ((with_reducible show wpAny _ _ (call (Value.builtin "len") [Value.ref _]) _ _ _); k_dflt (refine' len_S ?N ?m ?z ?_; (case N => k_asm); (case m => k_mem); (case z => first | with_reducible assumption | (simp only [sizeLine_eq]; omega)); k_whole)))
local macro_rules | `(tactic| walk_at "setAttr ref") => `(tactic| ((rename Sep _ _ => kS); k_dflt (refine' set_S ?k1 ?k2 ?k3 kS ?kx ?k4 ?k5 ?k6 ?k7 ?ku ?kh ?kz ?_; (case k1 => k_asm); (case k2 => k_asm); (case k3 => k_asm); (case kx => k_mem); (case ku => walk_at "k_at"); (case k4 => k_is); (case k5 => k_is); (case k6 => k_is); (case k7 => k_is); (case kh => assumption); (case kz => first | decide | omega); k_whole); intro h' HA' F' N' S'; generalize PySem.W.putL _ _ _ _ _ = es' at HA' N' S'; generalize putN _ _ _ = n' at N' S'; clear kS; (try k_sweep)))
local macro_rules | `(tactic| walk_at "getAttr ref") => `(tactic| k_dflt (first
  | (refine' get_S ?k1 ?k2 ?k3 ?kx ?kd ?kh ?g1 ?g2 ?g3 ?g4 ?gf ?gv ?_; (case k1 => k_asm); (case k2 => k_asm); (case k3 => k_asm); (case kx => k_mem); (case kd => k_mem); (case kh => assumption); (case gf => exact rfl); (case g1 => k_is); (case g2 => k_is); (case g3 => k_is); (case g4 => k_is); (case gv => k_handed); k_whole)
  | (refine' getCls_S ?k1 ?k2 ?k3 ?kx ?kd ?kh ?g1 ?g2 ?g3 ?g4 ?gv ?gc ?gf ?_; (case k1 => k_asm); (case k2 => k_asm); (case k3 => k_asm); (case kx => k_mem); (case kd => k_mem); (case kh => assumption); (case gf => exact rfl); (case g1 => k_is); (case g2 => k_is); (case g3 => k_is); (case g4 => k_is); (case gv => k_handed); (case gc => decide +kernel); k_whole)))
local macro_rules | `(tactic| walk_at "getMethod ref") => `(tactic| k_dflt (refine' meth_S ?k1 ?k2 ?k3 ?kx ?kd ?kh ?g1 ?g2 ?g3 ?gf ?_; (case k1 => k_asm); (case k2 => k_asm); (case k3 => k_asm); (case kx => k_mem); (case kd => k_mem); (case kh => assumption); (case gf => exact rfl); (case g1 => k_is); (case g2 => k_is); (case g3 => k_is); k_whole))
local macro_rules | `(tactic| walk_at "eval Dict nil nil") => `(tactic| ((rename Sep _ _ => kS); k_dflt (refine' newDict_S (Top.nolimit (by k_asm)) ?k1 ?k2 kS ?_; (case k1 => k_asm); (case k2 => k_asm); k_whole); intro l' h' F' N' S' hm'; clear kS; (try k_sweep)))

structure PS where
  lines : List Str
  cur : Str
  cc : Int
  wt : Bool

def pcpStep (col : Int) (st : PS) (c : Nat) : Option PS :=
  if st.wt then
    if (⟨#[c]⟩ : Str) == Str.ofString "\n" then
      if (((Txt.strip (st.cur ++ (⟨#[c]⟩ : Str))).length : Int) != 0) && decide (st.cc < col) then none
      else some ⟨st.lines ++ [st.cur ++ (⟨#[c]⟩ : Str)], "", 0, false⟩
    else some ⟨st.lines, st.cur ++ (⟨#[c]⟩ : Str), st.cc, st.wt⟩
  else if !(Builtin.Str.occurrences (Str.ofString " \t") (⟨#[c]⟩ : Str) 0 (Str.ofString " \t").length 1).isEmpty then some ⟨st.lines, st.cur ++ (⟨#[c]⟩ : Str), st.cc + 1, st.wt⟩
  else if (⟨#[c]⟩ : Str) == Str.ofString "\n" then some ⟨st.lines, st.cur ++ (⟨#[c]⟩ : Str), 0, st.wt⟩
  else if (⟨#[c]⟩ : Str) == Str.ofString "\x0c" then some ⟨st.lines, st.cur ++ (⟨#[c]⟩ : Str), 0, st.wt⟩
  else some ⟨st.lines, st.cur ++ (⟨#[c]⟩ : Str), st.cc, true⟩

def pcpGo (col : Int) (pre : Str) : PS → List Nat → Str × Str
  | st, [] => (Txt.join (Str.ofString "") st.lines, st.cur)
  | st, c :: r => match pcpStep col st c with
    | none => (Txt.join (Str.ofString "") st.lines, Txt.slice pre (some ((Txt.join (Str.ofString "") st.lines).length : Int)) none)
    | some st' => pcpGo col pre st' r

theorem pcpGo_step {col : Int} {pre : Str} {st st' : PS} {c : Nat} {r : List Nat} (h : pcpStep col st c = some st') : pcpGo col pre st (c :: r) = pcpGo col pre st' r := by
  rw [pcpGo, h]
theorem pcpGo_leave {col : Int} {pre : Str} {st : PS} {c : Nat} {r : List Nat} (h : pcpStep col st c = none) :
    pcpGo col pre st (c :: r) = (Txt.join (Str.ofString "") st.lines, Txt.slice pre (some ((Txt.join (Str.ofString "") st.lines).length : Int)) none) := by
  rw [pcpGo, h]
def pcp (pre : Str) (col : Int) : Str × Str := pcpGo col pre ⟨[], "", 0, false⟩ pre.cps.toList

def pcpPs (slf pre col : Value) (lines : Addr) (cur : Value) (cc : Value) (wt : Bool) : List (Str × Value) :=
  [("self", slf), ("prefix", pre), ("column", col), ("lines", .ref lines), ("current_line", cur), ("current_column", cc), ("wait_for_nl", .bool wt)]

def pcpJ (slf : Value) (pre : Str) (t1 : Tok) (col : Int) (t2 : Tok) (i : Nat) (m : Str → Option Value) (nx : List (Addr × Obj)) : Prop :=
  ∃ (la : Addr) (us : List Value) (st : PS) (tc ti : Tok) (n : Nat),
    (∀ q ∈ pcpPs slf (.str pre t1) (.int col t2) la (.str st.cur tc) (.int st.cc ti) st.wt, m q.1 = some q.2) ∧ nx = [(la, listOf us.toArray n)] ∧ PyProof.Rows.StrsAre us st.lines ∧
    st.cur.length + (st.lines.map (·.length)).sum ≤ i ∧ st.lines.length ≤ i ∧ pcpGo col pre st (pre.cps.toList.drop i) = pcp pre col

theorem pcpJ_step {slf : Value} {pre : Str} {t1 : Tok} {col : Int} {t2 : Tok} {i c : Nat} {m : Str → Option Value} {la : Addr} {us : List Value} {st st' : PS} {tc ti : Tok} {n : Nat}
    (hc : pre.cps[i]? = some c) (hgo : pcpGo col pre st (pre.cps.toList.drop i) = pcp pre col) (hst : pcpStep col st c = some st')
    (hm : ∀ q ∈ pcpPs slf (.str pre t1) (.int col t2) la (.str st'.cur tc) (.int st'.cc ti) st'.wt, m q.1 = some q.2) (hS : PyProof.Rows.StrsAre us st'.lines)
    (h1 : st'.cur.length + (st'.lines.map (·.length)).sum ≤ i + 1) (h2 : st'.lines.length ≤ i + 1) :
    pcpJ slf pre t1 col t2 (i + 1) m [(la, listOf us.toArray n)] :=
  ⟨la, us, st', tc, ti, n, hm, rfl, hS, h1, h2, by rw [drop_cons hc, pcpGo_step hst] at hgo; exact hgo⟩

theorem pcp_sz {cur : Str} {c i : Nat} {ls : List Str} (h : cur.length + (ls.map (·.length)).sum ≤ i) : (Str.ofString "").length + ((ls ++ [cur ++ (⟨#[c]⟩ : Str)]).map (·.length)).sum ≤ i + 1 := by
  have e : (Str.ofString "").length = 0 := by decide
  have e2 : (⟨#[c]⟩ : Str).length = 1 := rfl
  rw [List.map_append, List.sum_append, e]
  simp only [List.map_cons, List.map_nil, List.sum_cons, List.sum_nil, Str.length_append]
  omega

set_option maxHeartbeats 4000000 in
theorem pcp_ctr {w : World} {p : Program} {loose mean mg mb} (slf : Value) (pre : Str) (t1 : Tok) (col : Int) (t2 : Tok) (hz : pre.length ≤ 100000) :
    Ctr PySem.Challenge.rw_bl0003_02.row.prog w (Mine.hd.heap_39 w.params) p loose mean mg mb 72 2 20 ⟨[slf, .str pre t1, .int col t2], []⟩ [] [] fun v l =>
      ∃ (t : Addr) (u1 u2 : Tok), v = .ref t ∧ l = [(t, tupOf [.str (pcp pre col).1 u1, .str (pcp pre col).2 u2])] := by
  k_fill
  refine' Ctr.intro [("self", slf), ("prefix", .str pre t1), ("column", .int col t2)] ?ho ?hcd ?hbind ?hloc ?hps ?hco ?hgen ?hk ?hcell ?hdk ?_
  walk_at "my_intro"
  intro d u gd outer A₀ base g L m R s B F X N S hro T hd hu
  repeat' ((fail_if_success (with_reducible show wpAny _ _ (exec (Stmt.For _ _ _ _ _) _) _ _ _)); walk1)
  rename Fr _ _ _ _ => F1
  rename News _ _ _ _ => N1
  rename Sep _ _ => S1
  refine For_invVF F1 rfl rfl ?_
  walk1
  refine for_str (x := "char") (nx₀ := [(_, listOf #[] 0)]) (R := R) (pcpJ slf pre t1 col t2) rfl F1 N1 S1 ⟨_, [], ⟨[], "", 0, false⟩, _, _, 0, by (unfold pcpPs; kst_all), rfl, .nil, by decide, by decide, rfl⟩ ?_ ?_
  · rintro i c t m₁ nx h tk own hc ⟨la, us, st, tc, ti, n, hm, rfl, hS, hz1, hz2, hgo⟩ F2 N2 S2
    have F3 := fr_envx _ hm F2
    unfold pcpPs at F3
    clear F1 N1 F2 S1
    have hz5 : i < pre.length := by
      have := (Array.getElem?_eq_some_iff.mp hc).1
      exact this
    have hz6 : (⟨#[c]⟩ : Str).length = 1 := rfl
    have hz7 : us.length ≤ sizeLine := by
      rw [hS.length, sizeLine_eq]; omega
    have hz9 : (st.lines.map (·.length)).sum + st.lines.length ≤ 1048576 := by omega
    have hz10 := join_empty_le st.lines
    have hz11 : st.cur.length ≤ i := by omega
    repeat' walk1
    · refine LoopPost.ret ?_
      dsimp only
      have hst' : pcpStep col st c = none := by
        unfold pcpStep; rw [if_pos ‹st.wt = true›, if_pos ‹((⟨#[c]⟩ : Str) == Str.ofString "\n") = true›, ‹(((Txt.strip (st.cur ++ (⟨#[c]⟩ : Str))).length : Int) != 0) = true›, ‹decide (st.cc < col) = true›]; rfl
      rw [drop_cons hc, pcpGo_leave hst'] at hgo
      exact BodyPost.one (by assumption) (by assumption) (by assumption) ⟨_, _, _, rfl, by rw [← hgo]⟩
    · have hst' : pcpStep col st c = some ⟨st.lines ++ [st.cur ++ (⟨#[c]⟩ : Str)], "", 0, false⟩ := by
        unfold pcpStep; rw [if_pos ‹st.wt = true›, if_pos ‹((⟨#[c]⟩ : Str) == Str.ofString "\n") = true›, ‹(((Txt.strip (st.cur ++ (⟨#[c]⟩ : Str))).length : Int) != 0) = true›, ‹decide (st.cc < col) = false›]; rfl
      exact LoopPost.next (by assumption) (by assumption) (by assumption) (pcpJ_step hc hgo hst' (by unfold pcpPs; kst_all) (hS.append' (.cons _ _ .nil)) (pcp_sz hz1) (by rw [List.length_append]; exact Nat.succ_le_succ hz2))
    · have hst' : pcpStep col st c = some ⟨st.lines ++ [st.cur ++ (⟨#[c]⟩ : Str)], "", 0, false⟩ := by
        unfold pcpStep; rw [if_pos ‹st.wt = true›, if_pos ‹((⟨#[c]⟩ : Str) == Str.ofString "\n") = true›, ‹(((Txt.strip (st.cur ++ (⟨#[c]⟩ : Str))).length : Int) != 0) = false›, Bool.false_and]; try rfl
      exact LoopPost.next (by assumption) (by assumption) (by assumption) (pcpJ_step hc hgo hst' (by unfold pcpPs; kst_all) (hS.append' (.cons _ _ .nil)) (pcp_sz hz1) (by rw [List.length_append]; exact Nat.succ_le_succ hz2))
    · have hst' : pcpStep col st c = some ⟨st.lines, st.cur ++ (⟨#[c]⟩ : Str), st.cc, st.wt⟩ := by
        unfold pcpStep; rw [if_pos ‹st.wt = true›, if_neg (Bool.eq_false_iff.mp ‹((⟨#[c]⟩ : Str) == Str.ofString "\n") = false›)]; try rfl
      exact LoopPost.next (by assumption) (by assumption) (by assumption) (pcpJ_step hc hgo hst' (by unfold pcpPs; kst_all) hS (by simp only [Str.length_append]; omega) (by dsimp only; omega))
    · have hst' : pcpStep col st c = some ⟨st.lines, st.cur ++ (⟨#[c]⟩ : Str), st.cc + 1, st.wt⟩ := by
        unfold pcpStep; rw [if_neg (Bool.eq_false_iff.mp ‹st.wt = false›), if_pos ‹(!(Builtin.Str.occurrences (Str.ofString " \t") (⟨#[c]⟩ : Str) 0 (Str.ofString " \t").length 1).isEmpty) = true›]; try rfl
      exact LoopPost.next (by assumption) (by assumption) (by assumption) (pcpJ_step hc hgo hst' (by unfold pcpPs; kst_all) hS (by simp only [Str.length_append]; omega) (by dsimp only; omega))
    · have hst' : pcpStep col st c = some ⟨st.lines, st.cur ++ (⟨#[c]⟩ : Str), 0, st.wt⟩ := by
        unfold pcpStep; rw [if_neg (Bool.eq_false_iff.mp ‹st.wt = false›), if_neg (Bool.eq_false_iff.mp ‹(!(Builtin.Str.occurrences (Str.ofString " \t") (⟨#[c]⟩ : Str) 0 (Str.ofString " \t").length 1).isEmpty) = false›), if_pos ‹((⟨#[c]⟩ : Str) == Str.ofString "\n") = true›]; try rfl
      exact LoopPost.next (by assumption) (by assumption) (by assumption) (pcpJ_step hc hgo hst' (by unfold pcpPs; kst_all) hS (by simp only [Str.length_append]; omega) (by dsimp only; omega))
    · have hst' : pcpStep col st c = some ⟨st.lines, st.cur ++ (⟨#[c]⟩ : Str), 0, st.wt⟩ := by
        unfold pcpStep; rw [if_neg (Bool.eq_false_iff.mp ‹st.wt = false›), if_neg (Bool.eq_false_iff.mp ‹(!(Builtin.Str.occurrences (Str.ofString " \t") (⟨#[c]⟩ : Str) 0 (Str.ofString " \t").length 1).isEmpty) = false›), if_neg (Bool.eq_false_iff.mp ‹((⟨#[c]⟩ : Str) == Str.ofString "\n") = false›), if_pos ‹((⟨#[c]⟩ : Str) == Str.ofString "\x0c") = true›]; try rfl
      exact LoopPost.next (by assumption) (by assumption) (by assumption) (pcpJ_step hc hgo hst' (by unfold pcpPs; kst_all) hS (by simp only [Str.length_append]; omega) (by dsimp only; omega))
    · have hst' : pcpStep col st c = some ⟨st.lines, st.cur ++ (⟨#[c]⟩ : Str), st.cc, true⟩ := by
        unfold pcpStep; rw [if_neg (Bool.eq_false_iff.mp ‹st.wt = false›), if_neg (Bool.eq_false_iff.mp ‹(!(Builtin.Str.occurrences (Str.ofString " \t") (⟨#[c]⟩ : Str) 0 (Str.ofString " \t").length 1).isEmpty) = false›), if_neg (Bool.eq_false_iff.mp ‹((⟨#[c]⟩ : Str) == Str.ofString "\n") = false›), if_neg (Bool.eq_false_iff.mp ‹((⟨#[c]⟩ : Str) == Str.ofString "\x0c") = false›)]; try rfl
      exact LoopPost.next (by assumption) (by assumption) (by assumption) (pcpJ_step hc hgo hst' (by unfold pcpPs; kst_all) hS (by simp only [Str.length_append]; omega) (by dsimp only; omega))
  · rintro m₁ nx h tk ⟨la, us, st, tc, ti, n, hm, rfl, hS, hz1, hz2, hgo⟩ F2 N2 S2
    have F3 := fr_env _ hm F2
    unfold pcpPs at F3
    clear F1 N1 F2 S1
    have hz0 : pre.cps.size = pre.length := rfl
    have hz9 : (st.lines.map (·.length)).sum + st.lines.length ≤ 1048576 := by omega
    rw [List.drop_eq_nil_of_le (by simp), pcpGo] at hgo
    dsimp only
    repeat' walk1
    exact BodyPost.one' (by assumption) (by assumption) (by assumption) ⟨_, _, _, rfl, by rw [← hgo]⟩
end Mine
end

section
namespace Mine
local macro_rules | `(tactic| walk_at "k_at") => `(tactic| first | (with_reducible exact At.head) | (refine' At.tail ?kt; case kt => walk_at "k_at") | (refine' At.inl ?kt; case kt => walk_at "k_at") | (refine' At.inr ?kt; case kt => walk_at "k_at"))
local macro_rules | `(tactic| walk_at "ite") => `(tactic| (k_openite; first | (refine ite_pos (by with_reducible assumption) ?_) | (refine ite_neg (by with_reducible assumption) ?_) | (refine ite_isFalse (by with_reducible assumption) ?_) | (refine split_bool ?_ ?_ <;> intro _) | (refine split_dec ?_ ?_ <;> intro _) | (refine Mine.ite_any ?_ ?_ <;> intro _)))
local macro_rules | `(tactic| walk_at "newList") => `(tactic| ((rename Sep _ _ => kS); k_dflt (refine' newList_S ?k1 ?k2 kS ?_ ?z; (case k1 => k_asm); (case k2 => k_asm); (case z => size_fits); k_whole); intro l' h' F' N' S'; clear kS; (try k_sweep)))
local macro_rules | `(tactic| walk_at "newTuple") => `(tactic| ((rename Sep _ _ => kS); k_dflt (refine' newTuple_S ?k1 ?k2 kS ?_ ?z; (case k1 => k_asm); (case k2 => k_asm); (case z => size_fits); k_whole); intro l' h' F' N' S'; clear kS; (try k_sweep)))
local macro_rules | `(tactic| walk_at "call builtin:list.append") => `(tactic| ((with_reducible show wpAny _ _ (call (Value.builtin _) [Value.ref _, _]) _ _ _); (rename Sep _ _ => kS); k_dflt (refine' append_S ?k1 ?k2 kS ?k3 ?_ ?z; (case k1 => k_asm); (case k2 => k_asm); (case k3 => walk_at "k_at"); (case z => first | with_reducible assumption | size_fits); k_whole); intro h' F' N' S'; clear kS; (try k_sweep)))
local macro_rules | `(tactic| walk_at "my_intro") => `(tactic| (
  (case ho => k_is); (case hcd => k_is)
  (case hbind => exact fun s X => (by first | exact BindsTo.of_eq rfl | exact binds_K X rfl (by k_is) rfl rfl rfl))
  (case hloc => exact locs rfl)
  (case hps => kst_all)
  (case hco => exact rfl); (case hgen => exact rfl); (case hk => exact rfl)
  (case hcell => decide)
  (case hdk => decide)))
local macro_rules | `(tactic| walk_at "call builtin:str.join") => `(tactic| ((with_reducible show wpAny _ _ (call (Value.builtin _) [Value.str _ _, Value.ref _]) _ _ _); k_dflt (refine' join_S ?N ?m ?i ?a ?b ?_; (case N => k_asm); (case m => k_mem); (case i => assumption); (case a => decide); (case b => first | assumption | omega); k_whole); intro t' k'))
local macro_rules | `(tactic| walk_at "go") => `(tactic| repeat' ((fail_if_success (with_reducible show wpAny _ _ (call (Value.ref _) _ _) _ _ _)); (fail_if_success (with_reducible show wpAny _ _ (pyIter _) _ _ _)); (fail_if_success (with_reducible show ∃ _, _)); first | walk1 | (dsimp only; walk1)))
local macro_rules | `(tactic| walk_at "subscriptTail") => `(tactic| ((with_reducible show wpAny _ _ (subscriptTail _ _ (Value.ref _) (Value.int _ _)) _ _ _); k_dflt (refine' item_S ?N ?m ?a ?b ?x ?_ ?s; (case N => k_asm); (case m => k_mem); (case a => first | with_reducible assumption | omega); (case b => first | with_reducible assumption | omega); (case x => with_reducible assumption); (case s => with_unfolding_all rfl); k_whole)))
local macro_rules | `(tactic| walk_at "call builtin:len") => `(tactic| ((with_reducible show wpAny _ _ (call (Value.builtin "len") [Value.ref _]) _ _ _); k_dflt (refine' len_S ?N ?m ?z ?_; (case N => k_asm); (case m => k_mem); (case z => first | with_reducible assumption | (simp only [sizeLine_eq]; omega)); k_whole)))
local macro_rules | `(tactic| walk_at "setAttr ref") => `(tactic| ((rename Sep _ _ => kS); k_dflt (refine' set_S ?k1 ?k2 ?k3 kS ?kx ?k4 ?k5 ?k6 ?k7 ?ku ?kh ?kz ?_; (case k1 => k_asm); (case k2 => k_asm); (case k3 => k_asm); (case kx => k_mem); (case ku => walk_at "k_at"); (case k4 => k_is); (case k5 => k_is); (case k6 => k_is); (case k7 => k_is); (case kh => assumption); (case kz => first | decide | omega); k_whole); intro h' HA' F' N' S'; generalize PySem.W.putL _ _ _ _ _ = es' at HA' N' S'; generalize putN _ _ _ = n' at N' S'; clear kS; (try k_sweep)))
local macro_rules | `(tactic| walk_at "getAttr ref") => `(tactic| k_dflt (first
  | (refine' get_S ?k1 ?k2 ?k3 ?kx ?kd ?kh ?g1 ?g2 ?g3 ?g4 ?gf ?gv ?_; (case k1 => k_asm); (case k2 => k_asm); (case k3 => k_asm); (case kx => k_mem); (case kd => k_mem); (case kh => assumption); (case gf => exact rfl); (case g1 => k_is); (case g2 => k_is); (case g3 => k_is); (case g4 => k_is); (case gv => k_handed); k_whole)
  | (refine' getCls_S ?k1 ?k2 ?k3 ?kx ?kd ?kh ?g1 ?g2 ?g3 ?g4 ?gv ?gc ?gf ?_; (case k1 => k_asm); (case k2 => k_asm); (case k3 => k_asm); (case kx => k_mem); (case kd => k_mem); (case kh => assumption); (case gf => exact rfl); (case g1 => k_is); (case g2 => k_is); (case g3 => k_is); (case g4 => k_is); (case gv => k_handed); (case gc => decide +kernel); k_whole)))
local macro_rules | `(tactic| walk_at "getMethod ref") => `(tactic| k_dflt (refine' meth_S ?k1 ?k2 ?k3 ?kx ?kd ?kh ?g1 ?g2 ?g3 ?gf ?_; (case k1 => k_asm); (case k2 => k_asm); (case k3 => k_asm); (case kx => k_mem); (case kd => k_mem); (case kh => assumption); (case gf => exact rfl); (case g1 => k_is); (case g2 => k_is); (case g3 => k_is); k_whole))
local macro_rules | `(tactic| walk_at "eval Dict nil nil") => `(tactic| ((rename Sep _ _ => kS); k_dflt (refine' newDict_S (Top.nolimit (by k_asm)) ?k1 ?k2 kS ?_; (case k1 => k_asm); (case k2 => k_asm); k_whole); intro l' h' F' N' S' hm'; clear kS; (try k_sweep)))
def lawDef : Stmt := PySem.Challenge.pw_bl0003_02.main.body.getLast?.getD (.Pass default)
def lawBody : List Stmt := match lawDef with | .FunctionDef _ _ b _ _ _ _ _ _ _ => b | _ => []
def lawScope : Scope := match lawDef with | .FunctionDef _ _ _ _ _ _ sc _ _ _ => sc | _ => default
def lawS (i : Nat) : Stmt := lawBody.getD i (.Pass default)

section
variable {w : World} {p : Program} {loose : List Str} {mean : ExcName → Option Value} {mg mb : Str → Option Value} {d u : Nat} {gd : Option (List Code)} {outer : List Env} {A₀ : Around} {base g : Heap} {L f : Addr} {cdv : Value} {R : List (Addr × Obj)}

set_option maxHeartbeats 4000000 in
theorem law_s0 (B : Below A₀ base outer g) (X : (Mine.hd.heap_39 w.params).In g) (T : Top p loose mean mg mb g) {l : Addr} {vs : List Value} {ns : List Int} (hL : g.IsList l vs.toArray) (hI : IntsAre vs ns) (hn : ns.length ≤ 63)
    {s : Shared} {m : Str → Option Value} (F : Fr g L s.heap (kstB m [("script", .ref l)])) (N : News g L s.heap ([] ++ R)) (S : Sep [] R) :
    wpAny (model PySem.Challenge.rw_bl0003_02.row.prog w) (ktrTop d u gd "law" lawScope L f cdv [] outer) (exec (lawS 0) (envX "law" lawScope L f cdv []))
      (NextTo fun s' => ∃ c t, 0 ≤ c ∧ c < 7 ∧ LS g L R s [("script", .ref l), ("col", .int c t)] [] s') (fun _ _ => False) s := by
  revert X
  k_fill
  intro X
  rw [show lawScope = Scope.mk _ _ _ _ _ from rfl]
  show wpAny _ _ (exec (Stmt.Assign _ _ _) _) _ _ _
  repeat' walk1
  · exact ⟨rfl, _, _, Int.fmod_nonneg_of_pos _ (by decide), Int.fmod_lt_of_pos _ (by decide), LS.intro (by assumption) (by assumption) (by assumption) (by kst_all)⟩
  · exact ⟨rfl, _, _, Int.fmod_nonneg_of_pos _ (by decide), Int.fmod_lt_of_pos _ (by decide), LS.intro (by assumption) (by assumption) (by assumption) (by kst_all)⟩


def okc (c : Nat) : Bool := c == 32 || c == 9 || c == 12 || c == 120 || c == 121 || c == 10 || c == 35
def s2J (l : Addr) (c : Int) (t : Tok) (i : Nat) (m : Str → Option Value) (nx : List (Addr × Obj)) : Prop :=
  nx = [] ∧ ∃ (x : Str) (t' : Tok), x.length ≤ 6 * i ∧ (∀ c ∈ x.cps.toList, okc c = true) ∧ ∀ q ∈ ([("script", .ref l), ("col", .int c t), ("given", .str x t')] : List (Str × Value)), m q.1 = some q.2
def signs : List Str := [" ", "\t", " ", "\x0c", " ", "  ", "x", "y", "\n", "#"]
set_option maxHeartbeats 4000000 in
theorem signs_ctr : Ctr PySem.Challenge.rw_bl0003_02.row.prog w (Mine.hd.heap_39 w.params) p loose mean mg mb 86 2 20 ⟨[], []⟩ [] [] fun v l =>
      ∃ (a : Addr) (us : List Value), v = .ref a ∧ l = [(a, listOf us.toArray 0)] ∧ PyProof.Rows.StrsAre us signs := by
  k_fill
  refine' Ctr.intro [] ?ho ?hcd ?hbind ?hloc ?hps ?hco ?hgen ?hk ?hcell ?hdk ?_
  walk_at "my_intro"
  intro d u gd outer A₀ base g L m R s B F X N S hro T hd hu
  repeat' walk1
  exact BodyPost.one' (by assumption) (by assumption) (by assumption) ⟨_, _, rfl, rfl, by (repeat' constructor)⟩

theorem intsAre_at : ∀ {vs : List Value} {ns : List Int}, IntsAre vs ns → ∀ {i : Nat} {v : Value}, vs[i]? = some v → ∃ n t, v = .int n t
  | _, _, .cons n t h, 0, v, e => by simp at e; exact ⟨n, t, e.symm⟩
  | _, _, .cons n t h, i + 1, v, e => intsAre_at h (by simpa using e)
set_option maxHeartbeats 4000000 in
theorem law_s2 (B : Below A₀ base outer g) (X : (Mine.hd.heap_39 w.params).In g) (T : Top p loose mean mg mb g) {l : Addr} {vs : List Value} {ns : List Int} (hL : g.IsList l vs.toArray) (hI : IntsAre vs ns) (hn : ns.length ≤ 63)
    {s : Shared} {m : Str → Option Value} {c : Int} {t t' : Tok} (hd : d + 10 ≤ recursionLimit) (hu : u + 100 ≤ cLine) (F : Fr g L s.heap (kstB m [("script", .ref l), ("col", .int c t), ("given", .str "" t')])) (N : News g L s.heap ([] ++ R)) (S : Sep [] R) :
    wpAny (model PySem.Challenge.rw_bl0003_02.row.prog w) (ktrTop d u gd "law" lawScope L f cdv [] outer) (exec (lawS 2) (envX "law" lawScope L f cdv []))
      (NextTo fun s' => ∃ (x : Str) (t' : Tok), x.length ≤ 400 ∧ (∀ c ∈ x.cps.toList, okc c = true) ∧ LS g L R s [("script", .ref l), ("col", .int c t), ("given", .str x t')] [] s') (fun _ _ => False) s := by
  revert X
  k_fill
  intro X
  rw [show lawScope = Scope.mk _ _ _ _ _ from rfl]
  show wpAny _ _ (exec (Stmt.For _ _ _ _ _) _) _ _ _
  refine For_invVF F rfl rfl ?_
  refine wpAny_mono (Q := fun xv s₁ => ∃ (D : Addr) (ws : List Value) (ks : List Int) (n : Nat), xv = .ref D ∧ IntsAre ws ks ∧ ks.length ≤ 40 ∧ LS g L R s [("script", .ref l), ("col", .int c t), ("given", .str "" t')] [(D, listOf ws.toArray n)] s₁) ?_ (fun xv s₁ h => ?_) (fun _ _ h => h)
  · repeat' ((fail_if_success (with_reducible show ∃ _, _)); walk1)
    · rename ∀ p ∈ _, _ => l1
      exact ⟨_, _, _, _, rfl, by assumption, by simp only [List.length_take, List.length_drop]; omega, LS.intro (by assumption) (by assumption) (Sep.new S l1) (by kst_all)⟩
    · rename _ ∧ AllLt _ _ => l1
      refine ⟨_, _, [5, 9, 8, 9, 8, 4], _, rfl, ?_, by decide, LS.intro (by assumption) (news_mid (by assumption)) (Sep.new S (ktn_ltOf l1.2)) (by kst_all)⟩
      repeat' constructor
  · obtain ⟨D, ws, ks, nn, rfl, hI', hk, h₁, tk₁, m₁, rfl, F₁, N₁, S₁⟩ := h
    refine for_list (x := "n") (nx₀ := []) (R := (D, listOf ws.toArray nn) :: R) (s2J l c t) rfl (.inl ⟨nn, .head _⟩) F₁ N₁ (S₁.shut (a := [])) ⟨rfl, "", _, by decide, by decide, by kst_all⟩ ?_ ?_
    · rintro i v m₂ nx h₂ tk₂ own hv ⟨rfl, x, t₂, hx1, hx2, hm⟩ F₂ N₂ S₂
      have F₃ := fr_envx _ hm F₂
      clear F₂ F N F₁ N₁ S₁
      obtain ⟨n, tn, rfl⟩ := intsAre_at hI' hv
      walk_at "go"
      refine Ctr.use0 signs_ctr B X T rfl (by assumption) (by assumption) (by assumption) (by simp) (by omega) (by omega) ?_
      rintro v l h' tk' ⟨a, us, rfl, rfl, hU⟩ F N S
      obtain ⟨y, ty, hy, hy1, hy2⟩ : ∃ y t, us[((n.fmod 200).fmod 10).toNat]? = some (.str y t) ∧ y.length ≤ 2 ∧ ∀ c ∈ y.cps.toList, okc c = true := by
        have h0 : 0 ≤ (n.fmod 200).fmod 10 := Int.fmod_nonneg_of_pos _ (by decide)
        have h1 : (n.fmod 200).fmod 10 < 10 := Int.fmod_lt_of_pos _ (by decide)
        have h2 : ((n.fmod 200).fmod 10).toNat < signs.length := by show _ < 10; omega
        obtain ⟨t, ht⟩ := hU.at (List.getElem?_eq_getElem h2)
        have h3 : ∀ z ∈ signs, z.length ≤ 2 ∧ ∀ c ∈ z.cps.toList, okc c = true := by decide
        exact ⟨_, t, ht, h3 _ (List.getElem_mem h2)⟩
      have hq1 : 0 ≤ (n.fmod 200).fmod 10 := Int.fmod_nonneg_of_pos _ (by decide)
      have hq2 : (n.fmod 200).fmod 10 < 2 ^ 63 := Int.lt_trans (Int.fmod_lt_of_pos _ (by decide)) (by decide)
      have hq3 : 0 ≤ ((n.fmod 200).fdiv 10).fmod 3 := Int.fmod_nonneg_of_pos _ (by decide)
      have hq4 : ((n.fmod 200).fdiv 10).fmod 3 < 3 := Int.fmod_lt_of_pos _ (by decide)
      have hq5 : (Txt.mul y (1 + ((n.fmod 200).fdiv 10).fmod 3)).length ≤ 6 := by
        rw [mul_len y (by omega)]
        have h1 : (1 + ((n.fmod 200).fdiv 10).fmod 3).toNat ≤ 3 := by omega
        exact Nat.le_trans (Nat.mul_le_mul h1 hy1) (by decide)
      have hi : i < 40 := by
        have h1 := (List.getElem?_eq_some_iff.mp hv).1
        rw [hI'.length] at h1
        omega
      have hall := cat_all hx2 (mul_all (n := 1 + ((n.fmod 200).fdiv 10).fmod 3) (by omega) hy2)
      walk_at "go"
      refine LoopPost.nextK (nx := []) (by assumption) (by assumption) (by assumption) (List.nil_sublist _) ⟨rfl, _, _, ?_, hall, by kst_all⟩
      rw [Str.length_append]; omega
    · rintro m₂ nx h₂ tk₂ ⟨rfl, x, t₂, hx1, hx2, hm⟩ F₂ N₂ S₂
      exact ⟨rfl, x, t₂, by rw [hI'.length] at hx1; omega, hx2, _, _, _, rfl, fr_env _ hm F₂, news_sub N₂ fun _ h => .tail _ h, Sep.nil _⟩
end
end Mine
end

section
namespace Mine
local macro_rules | `(tactic| walk_at "k_at") => `(tactic| first | (with_reducible exact At.head) | (refine' At.tail ?kt; case kt => walk_at "k_at") | (refine' At.inl ?kt; case kt => walk_at "k_at") | (refine' At.inr ?kt; case kt => walk_at "k_at"))
local macro_rules | `(tactic| walk_at "ite") => `(tactic| (k_openite; first | (refine ite_pos (by with_reducible assumption) ?_) | (refine ite_neg (by with_reducible assumption) ?_) | (refine ite_isFalse (by with_reducible assumption) ?_) | (refine split_bool ?_ ?_ <;> intro _) | (refine split_dec ?_ ?_ <;> intro _) | (refine Mine.ite_any ?_ ?_ <;> intro _)))
local macro_rules | `(tactic| walk_at "newList") => `(tactic| ((rename Sep _ _ => kS); k_dflt (refine' newList_S ?k1 ?k2 kS ?_ ?z; (case k1 => k_asm); (case k2 => k_asm); (case z => size_fits); k_whole); intro l' h' F' N' S'; clear kS; (try k_sweep)))
local macro_rules | `(tactic| walk_at "newTuple") => `(tactic| ((rename Sep _ _ => kS); k_dflt (refine' newTuple_S ?k1 ?k2 kS ?_ ?z; (case k1 => k_asm); (case k2 => k_asm); (case z => size_fits); k_whole); intro l' h' F' N' S'; clear kS; (try k_sweep)))
local macro_rules | `(tactic| walk_at "call builtin:list.append") => `(tactic| ((with_reducible show wpAny _ _ (call (Value.builtin _) [Value.ref _, _]) _ _ _); (rename Sep _ _ => kS); k_dflt (refine' append_S ?k1 ?k2 kS ?k3 ?_ ?z; (case k1 => k_asm); (case k2 => k_asm); (case k3 => walk_at "k_at"); (case z => first | with_reducible assumption | size_fits); k_whole); intro h' F' N' S'; clear kS; (try k_sweep)))
local macro_rules | `(tactic| walk_at "my_intro") => `(tactic| (
  (case ho => k_is); (case hcd => k_is)
  (case hbind => exact fun s X => (by first | exact BindsTo.of_eq rfl | exact binds_K X rfl (by k_is) rfl rfl rfl))
  (case hloc => exact locs rfl)
  (case hps => kst_all)
  (case hco => exact rfl); (case hgen => exact rfl); (case hk => exact rfl)
  (case hcell => decide)
  (case hdk => decide)))
local macro_rules | `(tactic| walk_at "call builtin:str.join") => `(tactic| ((with_reducible show wpAny _ _ (call (Value.builtin _) [Value.str _ _, Value.ref _]) _ _ _); k_dflt (refine' join_S ?N ?m ?i ?a ?b ?_; (case N => k_asm); (case m => k_mem); (case i => assumption); (case a => decide); (case b => first | assumption | omega); k_whole); intro t' k'))
local macro_rules | `(tactic| walk_at "go") => `(tactic| repeat' ((fail_if_success (with_reducible show wpAny _ _ (call (Value.ref _) _ _) _ _ _)); (fail_if_success (with_reducible show wpAny _ _ (pyIter _) _ _ _)); (fail_if_success (with_reducible show ∃ _, _)); first | walk1 | (dsimp only; walk1)))
local macro_rules | `(tactic| walk_at "subscriptTail") => `(tactic| ((with_reducible show wpAny _ _ (subscriptTail _ _ (Value.ref _) (Value.int _ _)) _ _ _); k_dflt (refine' item_S ?N ?m ?a ?b ?x ?_ ?s; (case N => k_asm); (case m => k_mem); (case a => first | with_reducible assumption | omega); (case b => first | with_reducible assumption | omega); (case x => with_reducible assumption); (case s => with_unfolding_all rfl); k_whole)))
local macro_rules | `(tactic| walk_at "call builtin:len") => `(tactic| ((with_reducible show wpAny _ _ (call (Value.builtin "len") [Value.ref _]) _ _ _); k_dflt (refine' len_S ?N ?m ?z ?_; (case N => k_asm); (case m => k_mem); (case z => first | with_reducible assumption | (simp only [sizeLine_eq]; omega)); k_whole)))
local macro_rules | `(tactic| walk_at "setAttr ref") => `(tactic| ((rename Sep _ _ => kS); k_dflt (refine' set_S ?k1 ?k2 ?k3 kS ?kx ?k4 ?k5 ?k6 ?k7 ?ku ?kh ?kz ?_; (case k1 => k_asm); (case k2 => k_asm); (case k3 => k_asm); (case kx => k_mem); (case ku => walk_at "k_at"); (case k4 => k_is); (case k5 => k_is); (case k6 => k_is); (case k7 => k_is); (case kh => assumption); (case kz => first | decide | omega); k_whole); intro h' HA' F' N' S'; generalize PySem.W.putL _ _ _ _ _ = es' at HA' N' S'; generalize putN _ _ _ = n' at N' S'; clear kS; (try k_sweep)))
local macro_rules | `(tactic| walk_at "getAttr ref") => `(tactic| k_dflt (first
  | (refine' get_S ?k1 ?k2 ?k3 ?kx ?kd ?kh ?g1 ?g2 ?g3 ?g4 ?gf ?gv ?_; (case k1 => k_asm); (case k2 => k_asm); (case k3 => k_asm); (case kx => k_mem); (case kd => k_mem); (case kh => assumption); (case gf => exact rfl); (case g1 => k_is); (case g2 => k_is); (case g3 => k_is); (case g4 => k_is); (case gv => k_handed); k_whole)
  | (refine' getCls_S ?k1 ?k2 ?k3 ?kx ?kd ?kh ?g1 ?g2 ?g3 ?g4 ?gv ?gc ?gf ?_; (case k1 => k_asm); (case k2 => k_asm); (case k3 => k_asm); (case kx => k_mem); (case kd => k_mem); (case kh => assumption); (case gf => exact rfl); (case g1 => k_is); (case g2 => k_is); (case g3 => k_is); (case g4 => k_is); (case gv => k_handed); (case gc => decide +kernel); k_whole)))
local macro_rules | `(tactic| walk_at "getMethod ref") => `(tactic| k_dflt (refine' meth_S ?k1 ?k2 ?k3 ?kx ?kd ?kh ?g1 ?g2 ?g3 ?gf ?_; (case k1 => k_asm); (case k2 => k_asm); (case k3 => k_asm); (case kx => k_mem); (case kd => k_mem); (case kh => assumption); (case gf => exact rfl); (case g1 => k_is); (case g2 => k_is); (case g3 => k_is); k_whole))
local macro_rules | `(tactic| walk_at "eval Dict nil nil") => `(tactic| ((rename Sep _ _ => kS); k_dflt (refine' newDict_S (Top.nolimit (by k_asm)) ?k1 ?k2 kS ?_; (case k1 => k_asm); (case k2 => k_asm); k_whole); intro l' h' F' N' S' hm'; clear kS; (try k_sweep)))
section
variable {w : World} {p : Program} {loose : List Str} {mean : ExcName → Option Value} {mg mb : Str → Option Value} {d u : Nat} {gd : Option (List Code)} {outer : List Env} {A₀ : Around} {base g : Heap} {L f : Addr} {cdv : Value} {R : List (Addr × Obj)}
abbrev ps3 (l : Addr) (c : Int) (t : Tok) (x : Str) (t' : Tok) : List (Str × Value) := [("script", .ref l), ("col", .int c t), ("given", .str x t')]
set_option maxHeartbeats 4000000 in
theorem law_s3 (Bz : Below A₀ base outer g) (X : (Mine.hd.heap_39 w.params).In g) (Tz : Top p loose mean mg mb g) {l : Addr}
    {s : Shared} {m : Str → Option Value} {c : Int} {t t' : Tok} {x : Str} (hx : x.length ≤ 400) (F : Fr g L s.heap (kstB m (ps3 l c t x t'))) (N : News g L s.heap ([] ++ R)) (S : Sep [] R) :
    wpAny (model PySem.Challenge.rw_bl0003_02.row.prog w) (ktrTop d u gd "law" lawScope L f cdv [] outer) (exec (lawS 3) (envX "law" lawScope L f cdv []))
      (NextTo fun s' => ∃ (D : Addr) (us : List Value) (n : Nat), PyProof.Rows.StrsAre us (Txt.split x (Str.ofString "\n")) ∧ LS g L R s (("rows", .ref D) :: ps3 l c t x t') [(D, listOf us.toArray n)] s') (fun _ _ => False) s := by
  revert X
  k_fill
  intro X
  rw [show lawScope = Scope.mk _ _ _ _ _ from rfl]
  show wpAny _ _ (exec (Stmt.Assign _ _ _) _) _ _ _
  have hlt : ∀ p ∈ [] ++ R, p.1 < s.heap.objs.size := fun p hp => Heap.lt_size (N p hp).1
  walk_at "go"
  rename StrsAre _ _ => h1
  rename _ = Txt.split _ _ => h2
  exact ⟨rfl, _, _, _, h2 ▸ h1, LS.intro (by assumption) (by assumption) (Sep.new S hlt) (by kst_all)⟩
def bareOf (row : Str) : Str := Txt.lstripChars row (Str.ofString " \t\x0c")
def marginOf (row : Str) : Str := Txt.slice row none (some ((row.length : Int) - ((bareOf row).length : Int)))
def shallow (c : Int) (row : Str) : Bool := decide (((marginOf row).length : Int) - 1 - Txt.rfind (marginOf row) (Str.ofString "\x0c") < c)
def takenGo (c : Int) : List Str → Nat → Int → Int
  | [], _, t => t
  | row :: r, i, t => if bareOf row != Str.ofString "" then (if shallow c row then t else takenGo c r (i + 1) (0 + (i : Int) + 1)) else takenGo c r (i + 1) t
theorem takenGo_brk {c : Int} {row : Str} {r : List Str} {i : Nat} {t : Int} (h1 : (bareOf row != Str.ofString "") = true) (h2 : shallow c row = true) : takenGo c (row :: r) i t = t := by
  rw [takenGo, if_pos h1, if_pos h2]
theorem takenGo_next {c : Int} {row : Str} {r : List Str} {i : Nat} {t : Int} (h1 : (bareOf row != Str.ofString "") = true) (h2 : shallow c row = false) : takenGo c (row :: r) i t = takenGo c r (i + 1) (0 + (i : Int) + 1) := by
  rw [takenGo, if_pos h1, if_neg (by rw [h2]; decide)]
theorem takenGo_bare {c : Int} {row : Str} {r : List Str} {i : Nat} {t : Int} (h1 : (bareOf row != Str.ofString "") = false) : takenGo c (row :: r) i t = takenGo c r (i + 1) t := by
  rw [takenGo, if_neg (by rw [h1]; decide)]
def s5J (l : Addr) (c : Int) (t : Tok) (x : Str) (t' : Tok) (D : Addr) (us : List Value) (nn : Nat) (rows : List Str) (i : Nat) (m : Str → Option Value) (nx : List (Addr × Obj)) : Prop :=
  nx = [(D, listOf us.toArray nn)] ∧ ∃ (k : Int) (tk : Tok), (∀ q ∈ ((("taken", .int k tk) :: ("rows", .ref D) :: ps3 l c t x t') : List (Str × Value)), m q.1 = some q.2) ∧ takenGo c (rows.dropLast.drop i) i k = takenGo c rows.dropLast 0 0
set_option maxHeartbeats 4000000 in
theorem law_s5 (Bz : Below A₀ base outer g) (X : (Mine.hd.heap_39 w.params).In g) (Tz : Top p loose mean mg mb g) {l : Addr} {rows : List Str} {us : List Value} {nn : Nat} {D : Addr} (hU : PyProof.Rows.StrsAre us rows) (hr : rows.length ≤ 401) (hr1 : 1 ≤ rows.length) (hrl : ∀ r ∈ rows, r.length ≤ 400)
    {s : Shared} {m : Str → Option Value} {c : Int} {t t' tt : Tok} {x : Str} (hx : x.length ≤ 400) (F : Fr g L s.heap (kstB m (("taken", .int 0 tt) :: ("rows", .ref D) :: ps3 l c t x t'))) (N : News g L s.heap ([(D, listOf us.toArray nn)] ++ R)) (S : Sep [(D, listOf us.toArray nn)] R) :
    wpAny (model PySem.Challenge.rw_bl0003_02.row.prog w) (ktrTop d u gd "law" lawScope L f cdv [] outer) (exec (lawS 5) (envX "law" lawScope L f cdv []))
      (NextTo fun s' => ∃ (tk : Tok), LS g L R s (("taken", .int (takenGo c rows.dropLast 0 0) tk) :: ("rows", .ref D) :: ps3 l c t x t') [(D, listOf us.toArray nn)] s') (fun _ _ => False) s := by
  revert X
  k_fill
  intro X
  rw [show lawScope = Scope.mk _ _ _ _ _ from rfl]
  show wpAny _ _ (exec (Stmt.For _ _ _ _ _) _) _ _ _
  refine For_invVF F rfl rfl ?_
  have hus : us.length = rows.length := hU.length
  walk_at "go"
  rename IsRange _ _ _ _ _ _ _ _ => hrg
  refine for_range (x := "k") (nx₀ := [(D, listOf us.toArray nn)]) (R := R) (n := rows.length - 1) (s5J l c t x t' D us nn rows) rfl hrg (range_small _ (by omega) (by omega)) (by rw [range_size]; omega) (by assumption) (by assumption) S ⟨rfl, 0, tt, by kst_all, rfl⟩ ?_ ?_
  · rintro i ti m₁ nx h tk own hi ⟨rfl, k, tk', hm, hgo⟩ F₁ N₁ S₁
    have F₂ := fr_envx _ hm F₁
    obtain ⟨row, tr, hrow, htr⟩ : ∃ row tr, rows[i]? = some row ∧ us[(0 + (i : Int)).toNat]? = some (.str row tr) := by
      obtain ⟨t, ht⟩ := hU.at (List.getElem?_eq_getElem (show i < rows.length by omega))
      exact ⟨_, t, List.getElem?_eq_getElem _, by rw [show (0 + (i : Int)).toNat = i by omega]; exact ht⟩
    have hrl' : row.length ≤ 400 := hrl row (List.mem_of_getElem? hrow)
    clear hU
    have hdr : rows.dropLast.drop i = row :: rows.dropLast.drop (i + 1) := by
      have h1 : i < rows.dropLast.length := by rw [List.length_dropLast]; omega
      rw [List.drop_eq_getElem_cons h1, List.getElem_dropLast]
      obtain ⟨h2, h3⟩ := List.getElem?_eq_some_iff.mp hrow
      rw [h3]
    rw [hdr] at hgo
    have hi0 : (0 : Int) ≤ 0 + (i : Int) := by omega
    have hi1 : (0 : Int) + (i : Int) < 2 ^ 63 := by omega
    clear F₁
    walk_at "go"
    · dsimp only
      rw [takenGo_brk ‹_ = true› ‹decide _ = true›] at hgo
      refine LoopPost.brk ⟨rfl, tk', ?_⟩
      rw [← hgo]
      exact LS.keep (by assumption) (by assumption) (by assumption) (List.Sublist.refl _) (by kst_all)
    · refine LoopPost.next (by assumption) (by assumption) (by assumption) ⟨rfl, _, _, by kst_all, ?_⟩
      rw [takenGo_next ‹_ = true› ‹decide _ = false›] at hgo
      exact hgo
    · refine LoopPost.next (by assumption) (by assumption) (by assumption) ⟨rfl, k, tk', by kst_all, ?_⟩
      rw [takenGo_bare ‹_ = false›] at hgo
      exact hgo
  · rintro m₁ nx h tk ⟨rfl, k, tk', hm, hgo⟩ F₁ N₁ S₁
    rw [List.drop_eq_nil_of_le (by rw [List.length_dropLast]; exact Nat.le_refl _), takenGo] at hgo
    subst hgo
    exact ⟨rfl, tk', _, _, _, rfl, fr_env _ hm F₁, N₁, S₁⟩
end
end Mine
end

section
namespace Mine
local macro_rules | `(tactic| walk_at "k_at") => `(tactic| first | (with_reducible exact At.head) | (refine' At.tail ?kt; case kt => walk_at "k_at") | (refine' At.inl ?kt; case kt => walk_at "k_at") | (refine' At.inr ?kt; case kt => walk_at "k_at"))
local macro_rules | `(tactic| walk_at "ite") => `(tactic| (k_openite; first | (refine ite_pos (by with_reducible assumption) ?_) | (refine ite_neg (by with_reducible assumption) ?_) | (refine ite_isFalse (by with_reducible assumption) ?_) | (refine split_bool ?_ ?_ <;> intro _) | (refine split_dec ?_ ?_ <;> intro _) | (refine Mine.ite_any ?_ ?_ <;> intro _)))
local macro_rules | `(tactic| walk_at "newList") => `(tactic| ((rename Sep _ _ => kS); k_dflt (refine' newList_S ?k1 ?k2 kS ?_ ?z; (case k1 => k_asm); (case k2 => k_asm); (case z => size_fits); k_whole); intro l' h' F' N' S'; clear kS; (try k_sweep)))
local macro_rules | `(tactic| walk_at "newTuple") => `(tactic| ((rename Sep _ _ => kS); k_dflt (refine' newTuple_S ?k1 ?k2 kS ?_ ?z; (case k1 => k_asm); (case k2 => k_asm); (case z => size_fits); k_whole); intro l' h' F' N' S'; clear kS; (try k_sweep)))
local macro_rules | `(tactic| walk_at "call builtin:list.append") => `(tactic| ((with_reducible show wpAny _ _ (call (Value.builtin _) [Value.ref _, _]) _ _ _); (rename Sep _ _ => kS); k_dflt (refine' append_S ?k1 ?k2 kS ?k3 ?_ ?z; (case k1 => k_asm); (case k2 => k_asm); (case k3 => walk_at "k_at"); (case z => first | with_reducible assumption | size_fits); k_whole); intro h' F' N' S'; clear kS; (try k_sweep)))
local macro_rules | `(tactic| walk_at "my_intro") => `(tactic| (
  (case ho => k_is); (case hcd => k_is)
  (case hbind => exact fun s X => (by first | exact BindsTo.of_eq rfl | exact binds_K X rfl (by k_is) rfl rfl rfl))
  (case hloc => exact locs rfl)
  (case hps => kst_all)
  (case hco => exact rfl); (case hgen => exact rfl); (case hk => exact rfl)
  (case hcell => decide)
  (case hdk => decide)))
local macro_rules | `(tactic| walk_at "call builtin:str.join") => `(tactic| ((with_reducible show wpAny _ _ (call (Value.builtin _) [Value.str _ _, Value.ref _]) _ _ _); k_dflt (refine' join_S ?N ?m ?i ?a ?b ?_; (case N => k_asm); (case m => k_mem); (case i => assumption); (case a => decide); (case b => first | assumption | omega); k_whole); intro t' k'))
local macro_rules | `(tactic| walk_at "go") => `(tactic| repeat' ((fail_if_success (with_reducible show wpAny _ _ (call (Value.ref _) _ _) _ _ _)); (fail_if_success (with_reducible show wpAny _ _ (pyIter _) _ _ _)); (fail_if_success (with_reducible show ∃ _, _)); first | walk1 | (dsimp only; walk1)))
local macro_rules | `(tactic| walk_at "subscriptTail") => `(tactic| ((with_reducible show wpAny _ _ (subscriptTail _ _ (Value.ref _) (Value.int _ _)) _ _ _); k_dflt (refine' item_S ?N ?m ?a ?b ?x ?_ ?s; (case N => k_asm); (case m => k_mem); (case a => first | with_reducible assumption | omega); (case b => first | with_reducible assumption | omega); (case x => with_reducible assumption); (case s => with_unfolding_all rfl); k_whole)))
local macro_rules | `(tactic| walk_at "call builtin:len") => `(tactic| ((with_reducible show wpAny _ _ (call (Value.builtin "len") [Value.ref _]) _ _ _); k_dflt (refine' len_S ?N ?m ?z ?_; (case N => k_asm); (case m => k_mem); (case z => first | with_reducible assumption | (simp only [sizeLine_eq]; omega)); k_whole)))
local macro_rules | `(tactic| walk_at "setAttr ref") => `(tactic| ((rename Sep _ _ => kS); k_dflt (refine' set_S ?k1 ?k2 ?k3 kS ?kx ?k4 ?k5 ?k6 ?k7 ?ku ?kh ?kz ?_; (case k1 => k_asm); (case k2 => k_asm); (case k3 => k_asm); (case kx => k_mem); (case ku => walk_at "k_at"); (case k4 => k_is); (case k5 => k_is); (case k6 => k_is); (case k7 => k_is); (case kh => assumption); (case kz => first | decide | omega); k_whole); intro h' HA' F' N' S'; generalize PySem.W.putL _ _ _ _ _ = es' at HA' N' S'; generalize putN _ _ _ = n' at N' S'; clear kS; (try k_sweep)))
local macro_rules | `(tactic| walk_at "getAttr ref") => `(tactic| k_dflt (first
  | (refine' get_S ?k1 ?k2 ?k3 ?kx ?kd ?kh ?g1 ?g2 ?g3 ?g4 ?gf ?gv ?_; (case k1 => k_asm); (case k2 => k_asm); (case k3 => k_asm); (case kx => k_mem); (case kd => k_mem); (case kh => assumption); (case gf => exact rfl); (case g1 => k_is); (case g2 => k_is); (case g3 => k_is); (case g4 => k_is); (case gv => k_handed); k_whole)
  | (refine' getCls_S ?k1 ?k2 ?k3 ?kx ?kd ?kh ?g1 ?g2 ?g3 ?g4 ?gv ?gc ?gf ?_; (case k1 => k_asm); (case k2 => k_asm); (case k3 => k_asm); (case kx => k_mem); (case kd => k_mem); (case kh => assumption); (case gf => exact rfl); (case g1 => k_is); (case g2 => k_is); (case g3 => k_is); (case g4 => k_is); (case gv => k_handed); (case gc => decide +kernel); k_whole)))
local macro_rules | `(tactic| walk_at "getMethod ref") => `(tactic| k_dflt (refine' meth_S ?k1 ?k2 ?k3 ?kx ?kd ?kh ?g1 ?g2 ?g3 ?gf ?_; (case k1 => k_asm); (case k2 => k_asm); (case k3 => k_asm); (case kx => k_mem); (case kd => k_mem); (case kh => assumption); (case gf => exact rfl); (case g1 => k_is); (case g2 => k_is); (case g3 => k_is); k_whole))
local macro_rules | `(tactic| walk_at "eval Dict nil nil") => `(tactic| ((rename Sep _ _ => kS); k_dflt (refine' newDict_S (Top.nolimit (by k_asm)) ?k1 ?k2 kS ?_; (case k1 => k_asm); (case k2 => k_asm); k_whole); intro l' h' F' N' S' hm'; clear kS; (try k_sweep)))
section
variable {w : World} {p : Program} {loose : List Str} {mean : ExcName → Option Value} {mg mb : Str → Option Value} {d u : Nat} {gd : Option (List Code)} {outer : List Env} {A₀ : Around} {base g : Heap} {L f : Addr} {cdv : Value} {R : List (Addr × Obj)}
theorem strsAre_mem : ∀ {vs : List Value} {ss : List Str}, PyProof.Rows.StrsAre vs ss → ∀ v ∈ vs, ∃ r t, v = .str r t ∧ r ∈ ss
  | _, _, .cons y t h, v, hv => by
    rcases List.mem_cons.mp hv with rfl | hv
    · exact ⟨y, t, rfl, .head _⟩
    · obtain ⟨r, t, e, hr⟩ := strsAre_mem h v hv
      exact ⟨r, t, e, .tail _ hr⟩
theorem strsAre_paired {f : Str → Str} : ∀ {vs : List Value} {ss : List Str}, PyProof.Rows.StrsAre vs ss → ∀ {ys : List Value}, Paired (fun v y => ∀ r t, v = .str r t → ∃ t', y = .str (f r) t') vs ys → PyProof.Rows.StrsAre ys (ss.map f)
  | _, _, .nil, _, .nil => .nil
  | _, _, .cons y t h, _, .cons h1 h2 => by
    obtain ⟨t', rfl⟩ := h1 y t rfl
    exact .cons _ _ (strsAre_paired h h2)
theorem sum_le {b : Nat} : ∀ {ss : List Str}, (∀ z ∈ ss, z.length ≤ b) → (ss.map (·.length)).sum ≤ ss.length * b
  | [], _ => by simp
  | z :: r, h => by
    have h1 := sum_le (ss := r) fun z hz => h z (.tail _ hz)
    have h2 := h z (.head _)
    rw [List.map_cons, List.sum_cons, List.length_cons, Nat.succ_mul]
    omega
set_option maxHeartbeats 4000000 in
theorem law_s6 (Bz : Below A₀ base outer g) (X : (Mine.hd.heap_39 w.params).In g) (Tz : Top p loose mean mg mb g) {l : Addr} {rows : List Str} {us : List Value} {nn : Nat} {D : Addr} (hU : PyProof.Rows.StrsAre us rows) (hr : rows.length ≤ 401) (hrl : ∀ r ∈ rows, r.length ≤ 400)
    {k : Int} (hk0 : 0 ≤ k) (hk1 : k ≤ rows.length)
    {s : Shared} {m : Str → Option Value} {c : Int} {t t' tt : Tok} {x : Str} (F : Fr g L s.heap (kstB m (("taken", .int k tt) :: ("rows", .ref D) :: ps3 l c t x t'))) (N : News g L s.heap ([(D, listOf us.toArray nn)] ++ R)) (S : Sep [(D, listOf us.toArray nn)] R) :
    wpAny (model PySem.Challenge.rw_bl0003_02.row.prog w) (ktrTop d u gd "law" lawScope L f cdv [] outer) (exec (lawS 6) (envX "law" lawScope L f cdv []))
      (NextTo fun s' => ∃ (ty : Tok), LS g L R s (("own", .str (Txt.join (Str.ofString "") ((rows.take k.toNat).map (· ++ Str.ofString "\n"))) ty) :: ps3 l c t x t') [] s') (fun _ _ => False) s := by
  revert X
  k_fill
  intro X
  rw [show lawScope = Scope.mk _ _ _ _ _ from rfl]
  show wpAny _ _ (exec (Stmt.Assign _ _ _) _) _ _ _
  have hlt : ∀ p ∈ [(D, listOf us.toArray nn)] ++ R, p.1 < s.heap.objs.size := fun p hp => Heap.lt_size (N p hp).1
  have hT := hU.take' k.toNat
  have hTl : (us.take k.toNat).length ≤ 401 := by rw [List.length_take, hU.length]; omega
  have hall : ∀ v ∈ us, ∃ r t, v = .str r t ∧ r ∈ rows := strsAre_mem hU
  walk_at "go"
  rename Fr _ _ _ _ => F1
  rename News _ _ _ _ => N1
  rw [pick_upto hk0] at N1
  refine comp_list (nx := [_, _]) (fun v y => ∀ r t, v = .str r t → ∃ t', y = .str (r ++ Str.ofString "\n") t') rfl (News.isList N1 (.head _)) (Nat.le_trans hTl (by decide)) F1 N1 (Sep.new S fun p hp => Nat.lt_succ_of_lt (hlt p hp)) ?_ ?_
  · intro C v s₃ m₃ E' hv hn hm
    obtain ⟨r, t, rfl, hr'⟩ := hall v (List.mem_of_mem_take hv)
    have h1 := hrl r hr'
    refine wpAny_BinOp (wpAny_Name (wpAny_loadName_local rfl rfl hn hm (wpAny_Constant_str (PyProof.Rows.add_str (fun t' tk => ⟨fun r t e => ?_, s₃.heap, tk, rfl, fun _ _ e => e⟩) ?_))))
    · cases e; exact ⟨t', rfl⟩
    · have : (Str.ofString "\n").length = 1 := by decide
      rw [sizeLine_eq]; omega
  · intro a ys n h' tk hP F2 N2 S2
    have hY : PyProof.Rows.StrsAre ys ((rows.take k.toNat).map (· ++ Str.ofString "\n")) := strsAre_paired hT hP
    have hw : (((rows.take k.toNat).map (· ++ Str.ofString "\n")).map (·.length)).sum + ((rows.take k.toNat).map (· ++ Str.ofString "\n")).length ≤ 1048576 := by
      have h1 : ∀ z ∈ (rows.take k.toNat).map (· ++ Str.ofString "\n"), z.length ≤ 401 := by
        intro z hz
        obtain ⟨r, hr1, rfl⟩ := List.mem_map.mp hz
        rw [Str.length_append]
        have h2 := hrl r (List.mem_of_mem_take hr1)
        have : (Str.ofString "\n").length = 1 := by decide
        omega
      have h2 := sum_le h1
      rw [List.length_map, List.length_take] at h2 ⊢
      have h3 : min k.toNat rows.length * 401 ≤ 401 * 401 := Nat.mul_le_mul_right _ (by omega)
      omega
    clear N1 F1 F N
    dsimp only
    walk_at "go"
    exact ⟨rfl, _, LS.keep' (by assumption) (by assumption) (by assumption) (List.nil_sublist _) (by kst_all)⟩
end
end Mine
end

section
namespace Mine
local macro_rules | `(tactic| walk_at "k_at") => `(tactic| first | (with_reducible exact At.head) | (refine' At.tail ?kt; case kt => walk_at "k_at") | (refine' At.inl ?kt; case kt => walk_at "k_at") | (refine' At.inr ?kt; case kt => walk_at "k_at"))
local macro_rules | `(tactic| walk_at "ite") => `(tactic| (k_openite; first | (refine ite_pos (by with_reducible assumption) ?_) | (refine ite_neg (by with_reducible assumption) ?_) | (refine ite_isFalse (by with_reducible assumption) ?_) | (refine split_bool ?_ ?_ <;> intro _) | (refine split_dec ?_ ?_ <;> intro _) | (refine Mine.ite_any ?_ ?_ <;> intro _)))
local macro_rules | `(tactic| walk_at "newList") => `(tactic| ((rename Sep _ _ => kS); k_dflt (refine' newList_S ?k1 ?k2 kS ?_ ?z; (case k1 => k_asm); (case k2 => k_asm); (case z => size_fits); k_whole); intro l' h' F' N' S'; clear kS; (try k_sweep)))
local macro_rules | `(tactic| walk_at "newTuple") => `(tactic| ((rename Sep _ _ => kS); k_dflt (refine' newTuple_S ?k1 ?k2 kS ?_ ?z; (case k1 => k_asm); (case k2 => k_asm); (case z => size_fits); k_whole); intro l' h' F' N' S'; clear kS; (try k_sweep)))
local macro_rules | `(tactic| walk_at "call builtin:list.append") => `(tactic| ((with_reducible show wpAny _ _ (call (Value.builtin _) [Value.ref _, _]) _ _ _); (rename Sep _ _ => kS); k_dflt (refine' append_S ?k1 ?k2 kS ?k3 ?_ ?z; (case k1 => k_asm); (case k2 => k_asm); (case k3 => walk_at "k_at"); (case z => first | with_reducible assumption | size_fits); k_whole); intro h' F' N' S'; clear kS; (try k_sweep)))
local macro_rules | `(tactic| walk_at "my_intro") => `(tactic| (
  (case ho => k_is); (case hcd => k_is)
  (case hbind => exact fun s X => (by first | exact BindsTo.of_eq rfl | exact binds_K X rfl (by k_is) rfl rfl rfl))
  (case hloc => exact locs rfl)
  (case hps => kst_all)
  (case hco => exact rfl); (case hgen => exact rfl); (case hk => exact rfl)
  (case hcell => decide)
  (case hdk => decide)))
local macro_rules | `(tactic| walk_at "call builtin:str.join") => `(tactic| ((with_reducible show wpAny _ _ (call (Value.builtin _) [Value.str _ _, Value.ref _]) _ _ _); k_dflt (refine' join_S ?N ?m ?i ?a ?b ?_; (case N => k_asm); (case m => k_mem); (case i => assumption); (case a => decide); (case b => first | assumption | omega); k_whole); intro t' k'))
local macro_rules | `(tactic| walk_at "go") => `(tactic| repeat' ((fail_if_success (with_reducible show wpAny _ _ (call (Value.ref _) _ _) _ _ _)); (fail_if_success (with_reducible show wpAny _ _ (pyIter _) _ _ _)); (fail_if_success (with_reducible show ∃ _, _)); first | walk1 | (dsimp only; walk1)))
local macro_rules | `(tactic| walk_at "subscriptTail") => `(tactic| ((with_reducible show wpAny _ _ (subscriptTail _ _ (Value.ref _) (Value.int _ _)) _ _ _); k_dflt (refine' item_S ?N ?m ?a ?b ?x ?_ ?s; (case N => k_asm); (case m => k_mem); (case a => first | with_reducible assumption | omega); (case b => first | with_reducible assumption | omega); (case x => with_reducible assumption); (case s => with_unfolding_all rfl); k_whole)))
local macro_rules | `(tactic| walk_at "call builtin:len") => `(tactic| ((with_reducible show wpAny _ _ (call (Value.builtin "len") [Value.ref _]) _ _ _); k_dflt (refine' len_S ?N ?m ?z ?_; (case N => k_asm); (case m => k_mem); (case z => first | with_reducible assumption | (simp only [sizeLine_eq]; omega)); k_whole)))
local macro_rules | `(tactic| walk_at "setAttr ref") => `(tactic| ((rename Sep _ _ => kS); k_dflt (refine' set_S ?k1 ?k2 ?k3 kS ?kx ?k4 ?k5 ?k6 ?k7 ?ku ?kh ?kz ?_; (case k1 => k_asm); (case k2 => k_asm); (case k3 => k_asm); (case kx => k_mem); (case ku => walk_at "k_at"); (case k4 => k_is); (case k5 => k_is); (case k6 => k_is); (case k7 => k_is); (case kh => assumption); (case kz => first | decide | omega); k_whole); intro h' HA' F' N' S'; generalize PySem.W.putL _ _ _ _ _ = es' at HA' N' S'; generalize putN _ _ _ = n' at N' S'; clear kS; (try k_sweep)))
local macro_rules | `(tactic| walk_at "getAttr ref") => `(tactic| k_dflt (first
  | (refine' get_S ?k1 ?k2 ?k3 ?kx ?kd ?kh ?g1 ?g2 ?g3 ?g4 ?gf ?gv ?_; (case k1 => k_asm); (case k2 => k_asm); (case k3 => k_asm); (case kx => k_mem); (case kd => k_mem); (case kh => assumption); (case gf => exact rfl); (case g1 => k_is); (case g2 => k_is); (case g3 => k_is); (case g4 => k_is); (case gv => k_handed); k_whole)
  | (refine' getCls_S ?k1 ?k2 ?k3 ?kx ?kd ?kh ?g1 ?g2 ?g3 ?g4 ?gv ?gc ?gf ?_; (case k1 => k_asm); (case k2 => k_asm); (case k3 => k_asm); (case kx => k_mem); (case kd => k_mem); (case kh => assumption); (case gf => exact rfl); (case g1 => k_is); (case g2 => k_is); (case g3 => k_is); (case g4 => k_is); (case gv => k_handed); (case gc => decide +kernel); k_whole)))
local macro_rules | `(tactic| walk_at "getMethod ref") => `(tactic| k_dflt (refine' meth_S ?k1 ?k2 ?k3 ?kx ?kd ?kh ?g1 ?g2 ?g3 ?gf ?_; (case k1 => k_asm); (case k2 => k_asm); (case k3 => k_asm); (case kx => k_mem); (case kd => k_mem); (case kh => assumption); (case gf => exact rfl); (case g1 => k_is); (case g2 => k_is); (case g3 => k_is); k_whole))
local macro_rules | `(tactic| walk_at "eval Dict nil nil") => `(tactic| ((rename Sep _ _ => kS); k_dflt (refine' newDict_S (Top.nolimit (by k_asm)) ?k1 ?k2 kS ?_; (case k1 => k_asm); (case k2 => k_asm); k_whole); intro l' h' F' N' S' hm'; clear kS; (try k_sweep)))
section
variable {w : World} {p : Program} {loose : List Str} {mean : ExcName → Option Value} {mg mb : Str → Option Value}
def InstPost (C x dx : Addr) (l : List (Addr × Obj)) : Prop := ∃ es k n f, HasAttrs es k f ∧ l = [(x, instObj C dx), (dx, dictOf es n)]
theorem tail2 {α : Type} (l : List α) (a b : α) : [a, b].Sublist (l ++ [a, b]) := List.sublist_append_right _ _
set_option maxHeartbeats 4000000 in
theorem gram_ctr (x dx : Addr) : Ctr PySem.Challenge.rw_bl0003_02.row.prog w (Mine.hd.heap_39 w.params) p loose mean mg mb 35 2 20 ⟨[.ref x], []⟩ [(x, instObj 38 dx), (dx, dictOf [] 0)] [] fun v l => v = .none ∧ InstPost 38 x dx l := by
  k_fill
  refine' Ctr.intro [("self", .ref x)] ?ho ?hcd ?hbind ?hloc ?hps ?hco ?hgen ?hk ?hcell ?hdk ?_
  walk_at "my_intro"
  intro d u gd outer A₀ base g L m R s B F X N S hro T hd hu
  have HA := HasAttrs.nil
  walk_at "go"
  exact BodyPost.keep (own := []) (l := [_, _]) (by assumption) (by assumption) (by assumption) (tail2 [_, _, _, _, _, _, _, _, _, _, _] _ _) (by exact ⟨rfl, _, _, _, _, by assumption, rfl⟩)
def drvF (gv : Value) : Str → Option Value := fun y => if y = Str.ofString "grammar" then some gv else none
def DrvPost (gv : Value) (x dx : Addr) (l : List (Addr × Obj)) : Prop := ∃ es k n, HasAttrs es k (drvF gv) ∧ l = [(x, instObj 75 dx), (dx, dictOf es n)]
set_option maxHeartbeats 4000000 in
theorem drv_ctr (x dx : Addr) (gv : Value) : Ctr PySem.Challenge.rw_bl0003_02.row.prog w (Mine.hd.heap_39 w.params) p loose mean mg mb 57 2 20 ⟨[.ref x, gv], []⟩ [(x, instObj 75 dx), (dx, dictOf [] 0)] [] fun v l => v = .none ∧ DrvPost gv x dx l := by
  k_fill
  refine' Ctr.intro [("self", .ref x), ("grammar", gv)] ?ho ?hcd ?hbind ?hloc ?hps ?hco ?hgen ?hk ?hcell ?hdk ?_
  walk_at "my_intro"
  intro d u gd outer A₀ base g L m R s B F X N S hro T hd hu
  have HA := HasAttrs.nil
  walk_at "go"
  exact BodyPost.keep (own := []) (by assumption) (by assumption) (by assumption) (List.Sublist.refl _) (by exact ⟨rfl, _, _, _, by assumption, rfl⟩)

set_option maxHeartbeats 4000000 in
theorem law_s7 {d u : Nat} {gd : Option (List Code)} {outer : List Env} {A₀ : Around} {base g : Heap} {L f : Addr} {cdv : Value} {R : List (Addr × Obj)} (B : Below A₀ base outer g) (X : (Mine.hd.heap_39 w.params).In g) (T : Top p loose mean mg mb g) (hd : d + 10 ≤ recursionLimit) (hu : u + 100 ≤ cLine)
    {s : Shared} {m : Str → Option Value} {l : Addr} {c : Int} {t t' ty : Tok} {x y : Str} (hx : x.length ≤ 400) (F : Fr g L s.heap (kstB m (("own", .str y ty) :: ps3 l c t x t'))) (N : News g L s.heap ([] ++ R)) (S : Sep [] R) :
    wpAny (model PySem.Challenge.rw_bl0003_02.row.prog w) (ktrTop d u gd "law" lawScope L f cdv [] outer) (exec (lawS 7) (envX "law" lawScope L f cdv []))
      (NextTo fun s' => ∃ (a : Addr) (u1 u2 : Tok), LS g L R s (("told", .ref a) :: ("own", .str y ty) :: ps3 l c t x t') [(a, tupOf [.str (pcp x c).1 u1, .str (pcp x c).2 u2])] s') (fun _ _ => False) s := by
  revert X
  k_fill
  intro X
  rw [show lawScope = Scope.mk _ _ _ _ _ from rfl]
  show wpAny _ _ (exec (Stmt.Assign _ _ _) _) _ _ _
  walk_at "go"
  refine make_S (fI := 35) (post := InstPost 38) (pre := []) (ro := []) (by k_is) (by k_is) (by k_is) gram_ctr B X T rfl F N S (List.Perm.refl _) (by simp) (by omega) (by omega) ?_
  rintro xg dxg lg h1 tk1 ⟨es1, k1, n1, f1, HA1, rfl⟩ F1 N1 S1
  walk_at "go"
  refine make_S (fI := 57) (post := DrvPost _) (pre := []) (ro := []) (by k_is) (by k_is) (by k_is) (fun x dx => drv_ctr x dx _) B X T rfl F1 N1 S1 (List.Perm.refl _) (by simp) (by omega) (by omega) ?_
  rintro xd dxd ld h2 tk2 ⟨es2, k2, n2, HA2, rfl⟩ F2 N2 S2
  walk_at "go"
  refine Ctr.use0 (pcp_ctr _ _ _ _ _ (by omega)) B X T rfl (by assumption) (by assumption) (by assumption) (by simp) (by omega) (by omega) ?_
  rintro v l h tk ⟨a, u1, u2, rfl, rfl⟩ F3 N3 S3
  walk_at "go"
  exact ⟨rfl, a, u1, u2, LS.keep' (by assumption) (by assumption) (by assumption) (List.Sublist.cons_cons _ (List.nil_sublist _)) (by kst_all)⟩
end
end Mine
end

section
namespace Mine
local macro_rules | `(tactic| walk_at "k_at") => `(tactic| first | (with_reducible exact At.head) | (refine' At.tail ?kt; case kt => walk_at "k_at") | (refine' At.inl ?kt; case kt => walk_at "k_at") | (refine' At.inr ?kt; case kt => walk_at "k_at"))
local macro_rules | `(tactic| walk_at "ite") => `(tactic| (k_openite; first | (refine ite_pos (by with_reducible assumption) ?_) | (refine ite_neg (by with_reducible assumption) ?_) | (refine ite_isFalse (by with_reducible assumption) ?_) | (refine split_bool ?_ ?_ <;> intro _) | (refine split_dec ?_ ?_ <;> intro _) | (refine Mine.ite_any ?_ ?_ <;> intro _)))
local macro_rules | `(tactic| walk_at "newList") => `(tactic| ((rename Sep _ _ => kS); k_dflt (refine' newList_S ?k1 ?k2 kS ?_ ?z; (case k1 => k_asm); (case k2 => k_asm); (case z => size_fits); k_whole); intro l' h' F' N' S'; clear kS; (try k_sweep)))
local macro_rules | `(tactic| walk_at "newTuple") => `(tactic| ((rename Sep _ _ => kS); k_dflt (refine' newTuple_S ?k1 ?k2 kS ?_ ?z; (case k1 => k_asm); (case k2 => k_asm); (case z => size_fits); k_whole); intro l' h' F' N' S'; clear kS; (try k_sweep)))
local macro_rules | `(tactic| walk_at "call builtin:list.append") => `(tactic| ((with_reducible show wpAny _ _ (call (Value.builtin _) [Value.ref _, _]) _ _ _); (rename Sep _ _ => kS); k_dflt (refine' append_S ?k1 ?k2 kS ?k3 ?_ ?z; (case k1 => k_asm); (case k2 => k_asm); (case k3 => walk_at "k_at"); (case z => first | with_reducible assumption | size_fits); k_whole); intro h' F' N' S'; clear kS; (try k_sweep)))
local macro_rules | `(tactic| walk_at "my_intro") => `(tactic| (
  (case ho => k_is); (case hcd => k_is)
  (case hbind => exact fun s X => (by first | exact BindsTo.of_eq rfl | exact binds_K X rfl (by k_is) rfl rfl rfl))
  (case hloc => exact locs rfl)
  (case hps => kst_all)
  (case hco => exact rfl); (case hgen => exact rfl); (case hk => exact rfl)
  (case hcell => decide)
  (case hdk => decide)))
local macro_rules | `(tactic| walk_at "call builtin:str.join") => `(tactic| ((with_reducible show wpAny _ _ (call (Value.builtin _) [Value.str _ _, Value.ref _]) _ _ _); k_dflt (refine' join_S ?N ?m ?i ?a ?b ?_; (case N => k_asm); (case m => k_mem); (case i => assumption); (case a => decide); (case b => first | assumption | omega); k_whole); intro t' k'))
local macro_rules | `(tactic| walk_at "go") => `(tactic| repeat' ((fail_if_success (with_reducible show wpAny _ _ (call (Value.ref _) _ _) _ _ _)); (fail_if_success (with_reducible show wpAny _ _ (pyIter _) _ _ _)); (fail_if_success (with_reducible show ∃ _, _)); first | walk1 | (dsimp only; walk1)))
local macro_rules | `(tactic| walk_at "subscriptTail") => `(tactic| ((with_reducible show wpAny _ _ (subscriptTail _ _ (Value.ref _) (Value.int _ _)) _ _ _); k_dflt (refine' item_S ?N ?m ?a ?b ?x ?_ ?s; (case N => k_asm); (case m => k_mem); (case a => first | with_reducible assumption | omega); (case b => first | with_reducible assumption | omega); (case x => with_reducible assumption); (case s => with_unfolding_all rfl); k_whole)))
local macro_rules | `(tactic| walk_at "call builtin:len") => `(tactic| ((with_reducible show wpAny _ _ (call (Value.builtin "len") [Value.ref _]) _ _ _); k_dflt (refine' len_S ?N ?m ?z ?_; (case N => k_asm); (case m => k_mem); (case z => first | with_reducible assumption | (simp only [sizeLine_eq]; omega)); k_whole)))
local macro_rules | `(tactic| walk_at "setAttr ref") => `(tactic| ((rename Sep _ _ => kS); k_dflt (refine' set_S ?k1 ?k2 ?k3 kS ?kx ?k4 ?k5 ?k6 ?k7 ?ku ?kh ?kz ?_; (case k1 => k_asm); (case k2 => k_asm); (case k3 => k_asm); (case kx => k_mem); (case ku => walk_at "k_at"); (case k4 => k_is); (case k5 => k_is); (case k6 => k_is); (case k7 => k_is); (case kh => assumption); (case kz => first | decide | omega); k_whole); intro h' HA' F' N' S'; generalize PySem.W.putL _ _ _ _ _ = es' at HA' N' S'; generalize putN _ _ _ = n' at N' S'; clear kS; (try k_sweep)))
local macro_rules | `(tactic| walk_at "getAttr ref") => `(tactic| k_dflt (first
  | (refine' get_S ?k1 ?k2 ?k3 ?kx ?kd ?kh ?g1 ?g2 ?g3 ?g4 ?gf ?gv ?_; (case k1 => k_asm); (case k2 => k_asm); (case k3 => k_asm); (case kx => k_mem); (case kd => k_mem); (case kh => assumption); (case gf => exact rfl); (case g1 => k_is); (case g2 => k_is); (case g3 => k_is); (case g4 => k_is); (case gv => k_handed); k_whole)
  | (refine' getCls_S ?k1 ?k2 ?k3 ?kx ?kd ?kh ?g1 ?g2 ?g3 ?g4 ?gv ?gc ?gf ?_; (case k1 => k_asm); (case k2 => k_asm); (case k3 => k_asm); (case kx => k_mem); (case kd => k_mem); (case kh => assumption); (case gf => exact rfl); (case g1 => k_is); (case g2 => k_is); (case g3 => k_is); (case g4 => k_is); (case gv => k_handed); (case gc => decide +kernel); k_whole)))
local macro_rules | `(tactic| walk_at "getMethod ref") => `(tactic| k_dflt (refine' meth_S ?k1 ?k2 ?k3 ?kx ?kd ?kh ?g1 ?g2 ?g3 ?gf ?_; (case k1 => k_asm); (case k2 => k_asm); (case k3 => k_asm); (case kx => k_mem); (case kd => k_mem); (case kh => assumption); (case gf => exact rfl); (case g1 => k_is); (case g2 => k_is); (case g3 => k_is); k_whole))
local macro_rules | `(tactic| walk_at "eval Dict nil nil") => `(tactic| ((rename Sep _ _ => kS); k_dflt (refine' newDict_S (Top.nolimit (by k_asm)) ?k1 ?k2 kS ?_; (case k1 => k_asm); (case k2 => k_asm); k_whole); intro l' h' F' N' S' hm'; clear kS; (try k_sweep)))
section
variable {w : World} {p : Program} {loose : List Str} {mean : ExcName → Option Value} {mg mb : Str → Option Value}
def RetTrue (g : Heap) (L : Addr) (s : Shared) (f : Flow) (s' : Shared) : Prop := ∃ h' tk' m', f = .ret (.bool true) ∧ s' = { s with heap := h', toks := tk' } ∧ Fr g L h' m'
theorem shaped_two {y z : Str} (h1 : PyData.strOk y = true) (h2 : PyData.strOk z = true) : PySem.SeqAt.shaped (.tuple [.str y, .str z]) = true := by
  simp [PySem.SeqAt.shaped, PyData.canLay0, PyData.canLayAll0, PyData.depth, PyData.depthAll, h1, h2]
set_option maxHeartbeats 4000000 in
theorem law_s8 {d u : Nat} {gd : Option (List Code)} {outer : List Env} {A₀ : Around} {base g : Heap} {L f : Addr} {cdv : Value} {R : List (Addr × Obj)} (B : Below A₀ base outer g) (X : (Mine.hd.heap_39 w.params).In g) (T : Top p loose mean mg mb g) (hd : d + 10 ≤ recursionLimit) (hu : u + 100 ≤ cLine)
    {s : Shared} {m : Str → Option Value} {l a : Addr} {c : Int} {t t' ty u1 u2 : Tok} {x y : Str} (hx : x.length ≤ 400) (hy : y.length ≤ 400) (h1 : PyData.strOk y = true) (h2 : PyData.strOk (Txt.slice x (some (y.length : Int)) none) = true)
    (F : Fr g L s.heap (kstB m (("told", .ref a) :: ("own", .str y ty) :: ps3 l c t x t'))) (N : News g L s.heap ([(a, tupOf [.str y u1, .str (Txt.slice x (some (y.length : Int)) none) u2])] ++ R)) (S : Sep [(a, tupOf [.str y u1, .str (Txt.slice x (some (y.length : Int)) none) u2])] R) :
    wpAny (model PySem.Challenge.rw_bl0003_02.row.prog w) (ktrTop d u gd "law" lawScope L f cdv [] outer) (exec (lawS 8) (envX "law" lawScope L f cdv [])) (RetTrue g L s) (fun _ _ => False) s := by
  revert X
  k_fill
  intro X
  rw [show lawScope = Scope.mk _ _ _ _ _ from rfl]
  show wpAny _ _ (exec (Stmt.Return _ _) _) _ _ _
  walk_at "go"
  rename News _ _ _ _ => N1
  refine eq_dataH (da := .tuple [.str y, .str (Txt.slice x (some (y.length : Int)) none)]) (db := .tuple [.str y, .str (Txt.slice x (some (y.length : Int)) none)])
    (reads_tuple_at (News.get N1 (List.mem_append_left _ (.tail _ (.head _)))) rfl rfl (.cons (.str _ _) (.cons (.str _ _) .nil)))
    (reads_tuple_at (News.get N1 (List.mem_append_left _ (.head _))) rfl rfl (.cons (.str _ _) (.cons (.str _ _) .nil))) (shaped_two h1 h2) (shaped_two h1 h2) (by show u + 64 < cLine; omega) ?_
  rw [show PyData.eqv (.tuple [.str y, .str (Txt.slice x (some (y.length : Int)) none)]) (.tuple [.str y, .str (Txt.slice x (some (y.length : Int)) none)]) = true by simp [PyData.eqv, PyData.eqvAll]]
  exact ⟨_, _, _, rfl, rfl, by assumption⟩
end
end Mine
end

section
open PySem.Builtin.Str
namespace Mine
/-- a text as its signs' numbers -/
def tl (x : Str) : List Nat := x.cps.toList
theorem tl_inj {x y : Str} (h : tl x = tl y) : x = y := PySem.Str.ext' (Array.toList_inj.mp h)
theorem tl_append (x y : Str) : tl (x ++ y) = tl x ++ tl y := by unfold tl; rw [Str.cps_append, Array.toList_append]
theorem tl_len (x : Str) : (tl x).length = x.length := by unfold tl; simp [Str.length]
theorem tl_join0 : ∀ ls : List Str, tl (Txt.join (Str.ofString "") ls) = (ls.map tl).flatten := by
  intro ls
  have e : ∀ ls : List Str, tl (Str.join (Str.ofString "") ls) = (ls.map tl).flatten := by
    intro ls
    have e0 : tl (Str.ofString "") = [] := by decide
    induction ls with
    | nil => rfl
    | cons a r ih =>
      cases r with
      | nil => simp [Str.join]
      | cons b r =>
        show tl (a ++ Str.ofString "" ++ Str.join (Str.ofString "") (b :: r)) = _
        rw [tl_append, tl_append, e0, ih]; simp
  show tl (Builtin.Str.glued _ _) = _
  rw [PySem.StrLaws.glued_eq_join]
  exact e ls
theorem tl_join_nl : ∀ ls : List Str, ls ≠ [] → tl (Str.join (Str.ofString "\n") ls) = ((ls.dropLast.map fun r => tl r ++ [10]).flatten) ++ tl (ls.getLast?.getD (Str.ofString "")) := by
  intro ls
  have e0 : tl (Str.ofString "\n") = [10] := by decide
  induction ls with
  | nil => intro h; exact absurd rfl h
  | cons a r ih =>
    intro _
    cases r with
    | nil => simp [Str.join]
    | cons b r =>
      show tl (a ++ Str.ofString "\n" ++ Str.join (Str.ofString "\n") (b :: r)) = _
      rw [tl_append, tl_append, e0, ih (by simp)]
      simp
theorem dw_drop {α : Type} (p : α → Bool) : ∀ l : List α, l.drop (l.takeWhile p).length = l.dropWhile p
  | [] => rfl
  | a :: r => by
    rw [List.takeWhile_cons, List.dropWhile_cons]
    split
    · exact dw_drop p r
    · rfl
theorem tl_lstripBy (goes : Nat → Bool) (x : Str) : tl (Txt.stripBy goes true false x) = (tl x).dropWhile goes := by
  rw [PyProof.Rows.stripBy_eq]
  unfold tl
  rw [PySem.StrLaws.strSub_toList]
  simp only [stripLo, stripHi, if_true, Bool.false_eq_true, if_false]
  have h : (x.cps.toList.takeWhile goes).length ≤ x.length := by
    have := (List.takeWhile_sublist (p := goes) (l := x.cps.toList)).length_le
    simpa [Str.length] using this
  rw [List.take_of_length_le (by rw [List.length_drop]; simp [Str.length])]
  exact dw_drop _ _
theorem strip_ne {x : Str} {c : Nat} (hc : c ∈ tl x) (hs : Unicode.isSpace c = false) : (Txt.strip x).length ≠ 0 := by
  unfold Txt.strip
  rw [PyProof.Rows.stripBy_eq]
  obtain ⟨i, hi, he⟩ := List.getElem_of_mem hc
  have hl : i < x.length := by rw [← tl_len]; exact hi
  obtain ⟨a1, a2, a3⟩ := lo_facts Unicode.isSpace x
  obtain ⟨b1, b2, b3, b4⟩ := hi_facts Unicode.isSpace x (stripLo Unicode.isSpace true x) a1
  have hg : x.cps.getD i 0 = c := by
    rw [← getD_list]
    show (tl x).getD i 0 = c
    rw [List.getD, List.getElem?_eq_getElem hi, he]; rfl
  have h1 : stripLo Unicode.isSpace true x ≤ i := by
    refine Nat.le_of_not_lt fun h => ?_
    have := a2 i h
    rw [hg, hs] at this; cases this
  have h2 : i < stripHi Unicode.isSpace true x (stripLo Unicode.isSpace true x) := by
    refine Nat.lt_of_not_le fun h => ?_
    have := b3 i h hl
    rw [hg, hs] at this; cases this
  have : (strSub x (stripLo Unicode.isSpace true x) (stripHi Unicode.isSpace true x (stripLo Unicode.isSpace true x))).length = _ := (tl_len _).symm
  rw [this]
  unfold tl
  rw [PySem.StrLaws.strSub_toList, List.length_take, List.length_drop]
  have : x.cps.toList.length = x.length := by simp [Str.length]
  omega
theorem slice_gen (x : Str) (l u : Option Int) {a b : Nat} (hab : a ≤ b) (hb : b ≤ x.length) (e : strSliceIndices l u 1 x.length = strSliceIndices (some (a : Int)) (some (b : Int)) 1 x.length) :
    tl (Txt.slice x l u) = ((tl x).drop a).take (b - a) := by
  unfold Txt.slice
  rw [e]
  split
  · rename_i h
    have h1 := PySem.StrLaws.strSliceIndices_plain hab hb
    have h2 : b - a = x.length := by
      rw [h1] at h
      simpa using h
    have h3 : a = 0 := by omega
    subst h3
    rw [List.drop_zero, List.take_of_length_le (by rw [tl_len]; omega)]
  · have := PySem.StrLaws.sliced_plain x hab hb
    unfold tl
    rw [← this]
theorem slice_from (x : Str) {a : Nat} (h : a ≤ x.length) : tl (Txt.slice x (some (a : Int)) none) = (tl x).drop a := by
  rw [slice_gen x _ _ h (Nat.le_refl _) ?_, List.take_of_length_le (by rw [List.length_drop, tl_len]; exact Nat.le_refl _)]
  simp only [strSliceIndices, show (1 : Int) > 0 by decide, if_true]
  congr 1 <;> omega
theorem slice_to (x : Str) {b : Nat} (h : b ≤ x.length) : tl (Txt.slice x none (some (b : Int))) = (tl x).take b := by
  rw [slice_gen x _ _ (Nat.zero_le b) h ?_, List.drop_zero, Nat.sub_zero]
  simp only [strSliceIndices, show (1 : Int) > 0 by decide, if_true]
  congr 1 <;> omega
theorem tw_all {α : Type} {p : α → Bool} : ∀ {l : List α}, (∀ a ∈ l, p a = true) → l.takeWhile p = l
  | [], _ => rfl
  | a :: r, h => by rw [List.takeWhile_cons, if_pos (h a (.head _)), tw_all fun b hb => h b (.tail _ hb)]
/-- signs behind the last c -/
def behind (c : Nat) (l : List Nat) : Nat := (l.reverse.takeWhile (· != c)).length
theorem rfind_one (x : Str) (c : Nat) : (x.length : Int) - 1 - Txt.rfind x ⟨#[c]⟩ = behind c (tl x) := by
  have at_iff : ∀ i, PySem.StrLaws.At x ⟨#[c]⟩ x.length i ↔ (tl x)[i]? = some c := fun i => PySem.StrLaws.subAt_one x c i
  have rev : ∀ l : List Nat, (c ∉ l → behind c l = l.length) ∧ ∀ i, l[i]? = some c → (∀ k, i < k → l[k]? ≠ some c) → behind c l = l.length - 1 - i := by
    intro l
    refine ⟨fun h => ?_, fun i hi hk => ?_⟩
    · unfold behind
      rw [tw_all fun a ha => by simp; intro e; subst e; exact h (by simpa using ha)]
      simp
    · obtain ⟨hlt, he⟩ := List.getElem?_eq_some_iff.mp hi
      have e1 : l = l.take i ++ c :: l.drop (i + 1) := by
        have := List.take_append_drop i l
        rw [List.drop_eq_getElem_cons hlt, he] at this
        exact this.symm
      have e2 : c ∉ l.drop (i + 1) := by
        intro hm
        obtain ⟨j, hj⟩ := List.mem_iff_getElem?.mp hm
        rw [List.getElem?_drop] at hj
        exact hk _ (by omega) hj
      unfold behind
      rw [e1, List.reverse_append, List.reverse_cons, List.append_assoc, List.takeWhile_append_of_pos (fun a ha => by simp; intro e; subst e; exact e2 (by simpa using ha))]
      simp
      omega
  rcases rfind_whole x ⟨#[c]⟩ with ⟨h1, h2⟩ | ⟨i, h1, h2, h3⟩
  · rw [h1, (rev (tl x)).1 (fun hm => by obtain ⟨i, hi⟩ := List.mem_iff_getElem?.mp hm; exact h2 i ((at_iff i).mpr hi)), tl_len]
    omega
  · have hi := (at_iff i).mp h2
    have hlt := (List.getElem?_eq_some_iff.mp hi).1
    rw [h1, (rev (tl x)).2 i hi (fun k hk e => h3 k hk ((at_iff k).mpr e)), tl_len]
    rw [tl_len] at hlt
    omega
end Mine
end

section
open PySem.Builtin.Str
namespace Mine
theorem split_nl (x : Str) : Txt.split x (Str.ofString "\n") ≠ [] ∧ Str.join (Str.ofString "\n") (Txt.split x (Str.ofString "\n")) = x ∧ ∀ p ∈ Txt.split x (Str.ofString "\n"), 10 ∉ tl p := by
  have e : Str.ofString "\n" = ⟨#[10]⟩ := by decide
  rw [e]
  refine ⟨?_, PySem.StrLaws.join_split x _, fun p hp => PySem.StrLaws.split_free x 10 p hp⟩
  unfold Txt.split
  split
  · simp
  · split
    · simp
    · intro h
      have := congrArg List.length h
      rw [length_partsBetween] at this
      simp at this
theorem split_len (x : Str) : (Txt.split x (Str.ofString "\n")).length ≤ x.length + 1 ∧ ∀ p ∈ Txt.split x (Str.ofString "\n"), p.length ≤ x.length := by
  obtain ⟨h1, h2, h3⟩ := split_nl x
  have h4 := congrArg List.length (congrArg tl h2)
  rw [tl_join_nl _ h1, tl_len] at h4
  generalize Txt.split x (Str.ofString "\n") = ls at *
  have key : ∀ ls : List Str, ls.length ≤ ((ls.map fun r => tl r ++ [10]).flatten).length ∧ ∀ p ∈ ls, p.length ≤ ((ls.map fun r => tl r ++ [10]).flatten).length := by
    intro ls
    induction ls with
    | nil => simp
    | cons a r ih =>
      have e : (((a :: r).map fun r => tl r ++ [10]).flatten).length = a.length + 1 + ((r.map fun r => tl r ++ [10]).flatten).length := by
        rw [List.map_cons, List.flatten_cons, List.length_append, List.length_append, tl_len, List.length_singleton]
      rw [e, List.length_cons]
      refine ⟨by omega, fun p hp => ?_⟩
      rcases List.mem_cons.mp hp with rfl | hp
      · omega
      · have := ih.2 p hp; omega
  rw [List.length_append, tl_len] at h4
  have hd := key ls.dropLast
  have e : ls = ls.dropLast ++ [ls.getLast h1] := (List.dropLast_concat_getLast h1).symm
  have hl : ls.getLast?.getD (Str.ofString "") = ls.getLast h1 := by rw [List.getLast?_eq_some_getLast h1]; rfl
  rw [hl] at h4
  have e2 : ls.length = ls.dropLast.length + 1 := by have := congrArg List.length e; rw [List.length_append, List.length_singleton] at this; exact this
  refine ⟨by omega, fun p hp => ?_⟩
  rw [e] at hp
  rcases List.mem_append.mp hp with hp | hp
  · have := hd.2 p hp; omega
  · rw [List.mem_singleton.mp hp]; omega

theorem eq_one (c k : Nat) (s : String) (hs : Str.ofString s = ⟨#[k]⟩) : ((⟨#[c]⟩ : Str) == Str.ofString s) = decide (c = k) := by
  rw [hs]
  by_cases h : c = k
  · subst h; simp
  · have : ¬ ((⟨#[c]⟩ : Str) = ⟨#[k]⟩) := fun e => h (by simpa using e)
    simp [h, beq_eq_false_iff_ne.mpr this]
theorem is_sp (c : Nat) : (!(occurrences (Str.ofString " \t") (⟨#[c]⟩ : Str) 0 (Str.ofString " \t").length 1).isEmpty) = decide (c = 32 ∨ c = 9) := by
  rw [PySem.StrLaws.found_one]
  have : (Str.ofString " \t").cps.toList = [32, 9] := by decide
  rw [this]
  simp
def blank (c : Nat) : Bool := c == 32 || c == 9 || c == 12
/-- what the driver's count makes of a margin -/
def ccf (cc : Int) (c : Nat) : Int := if c == 12 then 0 else cc + 1

section
variable {col : Int} {ls : List Str} {cur : Str} {cc : Int} {c : Nat}
theorem st_blank (h : blank c = true) : pcpStep col ⟨ls, cur, cc, false⟩ c = some ⟨ls, cur ++ (⟨#[c]⟩ : Str), ccf cc c, false⟩ := by
  unfold pcpStep ccf
  simp only [Bool.false_eq_true, if_false, is_sp, eq_one c 10 "\n" (by decide), eq_one c 12 "\x0c" (by decide), decide_eq_true_eq]
  simp only [blank, Bool.or_eq_true, beq_iff_eq] at h
  rcases h with (h | h) | h <;> subst h <;> simp
theorem st_nl : pcpStep col ⟨ls, cur, cc, false⟩ 10 = some ⟨ls, cur ++ (⟨#[10]⟩ : Str), 0, false⟩ := by
  unfold pcpStep
  simp only [Bool.false_eq_true, if_false, is_sp, eq_one 10 10 "\n" (by decide)]
  simp
theorem st_other (h : blank c = false) (h10 : c ≠ 10) : pcpStep col ⟨ls, cur, cc, false⟩ c = some ⟨ls, cur ++ (⟨#[c]⟩ : Str), cc, true⟩ := by
  unfold pcpStep
  simp only [Bool.false_eq_true, if_false, is_sp, eq_one c 10 "\n" (by decide), eq_one c 12 "\x0c" (by decide), decide_eq_true_eq]
  simp only [blank, Bool.or_eq_false_iff, beq_eq_false_iff_ne] at h
  obtain ⟨⟨h1, h2⟩, h3⟩ := h
  rw [if_neg (by omega), if_neg h10, if_neg h3]
theorem st_wt (h10 : c ≠ 10) : pcpStep col ⟨ls, cur, cc, true⟩ c = some ⟨ls, cur ++ (⟨#[c]⟩ : Str), cc, true⟩ := by
  unfold pcpStep
  simp only [if_true, eq_one c 10 "\n" (by decide), decide_eq_true_eq]
  rw [if_neg h10]
theorem st_wt_nl (hs : (Txt.strip (cur ++ (⟨#[10]⟩ : Str))).length ≠ 0) : pcpStep col ⟨ls, cur, cc, true⟩ 10 = if cc < col then none else some ⟨ls ++ [cur ++ (⟨#[10]⟩ : Str)], "", 0, false⟩ := by
  unfold pcpStep
  have e : (((Txt.strip (cur ++ (⟨#[10]⟩ : Str))).length : Int) != 0) = true := by simpa using hs
  simp only [if_true, eq_one 10 10 "\n" (by decide), e, Bool.true_and, decide_eq_true_eq]
end
def ofL (l : List Nat) : Str := ⟨l.toArray⟩
theorem tl_ofL (l : List Nat) : tl (ofL l) = l := rfl
theorem snoc_ofL (x : Str) (c : Nat) (l : List Nat) : x ++ (⟨#[c]⟩ : Str) ++ ofL l = x ++ ofL (c :: l) := tl_inj (by
  have : tl (⟨#[c]⟩ : Str) = [c] := rfl
  simp [tl_append, tl_ofL, this])
theorem app_nil (x : Str) : x ++ ofL [] = x := tl_inj (by simp [tl_append, tl_ofL])

section
variable {col : Int} {pre : Str} {ls : List Str}
theorem go_blank : ∀ (l : List Nat) (cur : Str) (cc : Int) (rest : List Nat), (∀ c ∈ l, blank c = true) → pcpGo col pre ⟨ls, cur, cc, false⟩ (l ++ rest) = pcpGo col pre ⟨ls, cur ++ ofL l, l.foldl ccf cc, false⟩ rest
  | [], cur, cc, rest, _ => by rw [app_nil]; rfl
  | c :: l, cur, cc, rest, h => by
    rw [List.cons_append, pcpGo_step (st_blank (h c (.head _))), go_blank l _ _ rest fun d hd => h d (.tail _ hd), snoc_ofL]; rfl
theorem go_wt : ∀ (l : List Nat) (cur : Str) (cc : Int) (rest : List Nat), (∀ c ∈ l, c ≠ 10) → pcpGo col pre ⟨ls, cur, cc, true⟩ (l ++ rest) = pcpGo col pre ⟨ls, cur ++ ofL l, cc, true⟩ rest
  | [], cur, cc, rest, _ => by rw [app_nil]; rfl
  | c :: l, cur, cc, rest, h => by
    rw [List.cons_append, pcpGo_step (st_wt (h c (.head _))), go_wt l _ _ rest fun d hd => h d (.tail _ hd), snoc_ofL]
end
theorem ccf_behind : ∀ (l : List Nat), l.foldl ccf 0 = (behind 12 l : Int) := by
  intro l
  have e : ∀ l : List Nat, l.reverse.foldl ccf 0 = ((l.takeWhile (· != 12)).length : Int) := by
    intro l
    induction l with
    | nil => rfl
    | cons a r ih =>
      rw [List.reverse_cons, List.foldl_append, ih, List.takeWhile_cons]
      simp only [List.foldl_cons, List.foldl_nil, ccf]
      by_cases h : a = 12
      · subst h; simp
      · simp [h]
  have := e l.reverse
  rw [List.reverse_reverse] at this
  exact this

/-- a row's sign that is no blank is no white space at all -/
def Fine (x : Str) : Prop := ∀ c ∈ tl x, blank c = true ∨ c = 10 ∨ Unicode.isSpace c = false

theorem tw_take {α : Type} (p : α → Bool) : ∀ l : List α, l.take (l.takeWhile p).length = l.takeWhile p
  | [] => rfl
  | a :: r => by
    rw [List.takeWhile_cons]
    split
    · rw [List.length_cons, List.take_succ_cons, tw_take p r]
    · rfl
theorem dw_head {α : Type} {p : α → Bool} : ∀ {l : List α} {a : α} {r : List α}, l.dropWhile p = a :: r → p a = false
  | b :: l, a, r, h => by
    rw [List.dropWhile_cons] at h
    split at h
    · exact dw_head h
    · rename_i hb
      cases h
      simpa using hb
theorem bare_eq (row : Str) : tl (bareOf row) = (tl row).dropWhile blank := by
  unfold bareOf Txt.lstripChars
  rw [tl_lstripBy]
  congr 1
  funext c
  have e : (Str.ofString " \t\x0c").cps = #[32, 9, 12] := by decide
  rw [e, Bool.eq_iff_iff]
  simp [blank, or_assoc]
theorem bare_ne (row : Str) : (bareOf row != Str.ofString "") = !((tl row).dropWhile blank).isEmpty := by
  rw [← bare_eq]
  have e : Str.ofString "" = ofL [] := by decide
  cases h : tl (bareOf row) with
  | nil =>
    have : bareOf row = Str.ofString "" := tl_inj (by rw [h, e]; rfl)
    rw [this]; simp
  | cons a r =>
    have : bareOf row ≠ Str.ofString "" := fun q => by rw [q, e] at h; cases h
    simpa using this
theorem margin_eq (row : Str) : tl (marginOf row) = (tl row).takeWhile blank := by
  unfold marginOf
  have h1 : (bareOf row).length = ((tl row).dropWhile blank).length := by rw [← tl_len, bare_eq]
  have h2 : ((tl row).takeWhile blank).length + ((tl row).dropWhile blank).length = row.length := by
    rw [← tl_len row, ← List.length_append, List.takeWhile_append_dropWhile]
  have e : ((row.length : Int) - ((bareOf row).length : Int)) = ((((tl row).takeWhile blank).length : Nat) : Int) := by omega
  rw [e, slice_to row (by omega)]
  exact tw_take _ _
theorem shallow_eq (col : Int) (row : Str) : shallow col row = decide ((((tl row).takeWhile blank).foldl ccf 0) < col) := by
  unfold shallow
  have e : Str.ofString "\x0c" = ⟨#[12]⟩ := by decide
  rw [e, rfind_one, margin_eq, ccf_behind]

section
variable {col : Int} {pre : Str} {ls : List Str}
theorem go_row (row : Str) (hf : Fine row) (h10 : 10 ∉ tl row) (cur : Str) (rest : List Nat) :
    pcpGo col pre ⟨ls, cur, 0, false⟩ (tl row ++ 10 :: rest) =
      if bareOf row != Str.ofString "" then (if shallow col row then (Txt.join (Str.ofString "") ls, Txt.slice pre (some ((Txt.join (Str.ofString "") ls).length : Int)) none)
        else pcpGo col pre ⟨ls ++ [cur ++ row ++ (⟨#[10]⟩ : Str)], "", 0, false⟩ rest)
      else pcpGo col pre ⟨ls, cur ++ row ++ (⟨#[10]⟩ : Str), 0, false⟩ rest := by
  have hsplit : tl row = (tl row).takeWhile blank ++ (tl row).dropWhile blank := (List.takeWhile_append_dropWhile ..).symm
  have hrow : ∀ x : Str, x ++ ofL (tl row) = x ++ row := fun x => tl_inj (by rw [tl_append, tl_append, tl_ofL])
  rw [bare_ne, shallow_eq]
  have hb : ∀ c ∈ (tl row).takeWhile blank, blank c = true := fun c hc => by
    have := List.all_takeWhile (p := blank) (l := tl row)
    exact List.all_eq_true.mp this c hc
  cases hd : (tl row).dropWhile blank with
  | nil =>
    rw [hd, List.append_nil] at hsplit
    simp only [List.isEmpty_nil, Bool.not_true, Bool.false_eq_true, if_false]
    conv => lhs; rw [hsplit]
    rw [go_blank _ _ _ _ hb, pcpGo_step st_nl, ← hsplit, hrow]
  | cons a r =>
    simp only [List.isEmpty_cons, Bool.not_false, if_true]
    have ha : blank a = false := dw_head hd
    have hmem : ∀ c ∈ a :: r, c ∈ tl row := fun c hc => by rw [hsplit, hd]; exact List.mem_append_right _ hc
    have ha10 : a ≠ 10 := fun e => h10 (e ▸ hmem a (.head _))
    have hcur : cur ++ ofL ((tl row).takeWhile blank) ++ (⟨#[a]⟩ : Str) ++ ofL r = cur ++ row := tl_inj (by
      have : tl (⟨#[a]⟩ : Str) = [a] := rfl
      simp only [tl_append, tl_ofL, this, List.append_assoc]
      conv => rhs; rw [hsplit, hd]
      simp)
    conv => lhs; rw [hsplit, hd, List.append_assoc]
    rw [go_blank _ _ _ _ hb, List.cons_append, pcpGo_step (st_other ha ha10), go_wt r _ _ _ fun c hc e => h10 (e ▸ hmem c (.tail _ hc)), hcur]
    have hs : (Txt.strip (cur ++ row ++ (⟨#[10]⟩ : Str))).length ≠ 0 := by
      refine strip_ne (c := a) (by rw [tl_append, tl_append]; exact List.mem_append_left _ (List.mem_append_right _ (hmem a (.head _)))) ?_
      rcases hf a (hmem a (.head _)) with h | h | h
      · rw [ha] at h; cases h
      · exact absurd h ha10
      · exact h
    have hstep := st_wt_nl (col := col) (ls := ls) (cc := ((tl row).takeWhile blank).foldl ccf 0) hs
    by_cases hc : ((tl row).takeWhile blank).foldl ccf 0 < col
    · rw [if_pos hc] at hstep
      rw [pcpGo_leave hstep, if_pos (by simpa using hc)]
    · rw [if_neg hc] at hstep
      rw [pcpGo_step hstep, if_neg (by simpa using hc)]
theorem go_last (row : Str) (h10 : 10 ∉ tl row) (cur : Str) : pcpGo col pre ⟨ls, cur, 0, false⟩ (tl row) = (Txt.join (Str.ofString "") ls, cur ++ row) := by
  have hsplit : tl row = (tl row).takeWhile blank ++ (tl row).dropWhile blank := (List.takeWhile_append_dropWhile ..).symm
  have hrow : ∀ x : Str, x ++ ofL (tl row) = x ++ row := fun x => tl_inj (by rw [tl_append, tl_append, tl_ofL])
  have hb : ∀ c ∈ (tl row).takeWhile blank, blank c = true := fun c hc => by
    have := List.all_takeWhile (p := blank) (l := tl row)
    exact List.all_eq_true.mp this c hc
  cases hd : (tl row).dropWhile blank with
  | nil =>
    rw [hd, List.append_nil] at hsplit
    have := go_blank (col := col) (pre := pre) (ls := ls) _ cur 0 [] hb
    rw [List.append_nil, ← hsplit, hrow, pcpGo] at this
    exact this
  | cons a r =>
    have ha : blank a = false := dw_head hd
    have hmem : ∀ c ∈ a :: r, c ∈ tl row := fun c hc => by rw [hsplit, hd]; exact List.mem_append_right _ hc
    have ha10 : a ≠ 10 := fun e => h10 (e ▸ hmem a (.head _))
    have hcur : cur ++ ofL ((tl row).takeWhile blank) ++ (⟨#[a]⟩ : Str) ++ ofL r = cur ++ row := tl_inj (by
      have : tl (⟨#[a]⟩ : Str) = [a] := rfl
      simp only [tl_append, tl_ofL, this, List.append_assoc]
      conv => rhs; rw [hsplit, hd]
      simp)
    conv => lhs; rw [hsplit, hd]
    rw [go_blank _ _ _ _ hb, pcpGo_step (st_other ha ha10)]
    have := go_wt (col := col) (pre := pre) (ls := ls) r (cur ++ ofL ((tl row).takeWhile blank) ++ (⟨#[a]⟩ : Str)) (((tl row).takeWhile blank).foldl ccf 0) [] fun c hc e => h10 (e ▸ hmem c (.tail _ hc))
    rw [List.append_nil, hcur, pcpGo] at this
    exact this
end
/-- a row as it stands in the text, its line end with it -/
def nl (r : Str) : List Nat := tl r ++ [10]
theorem go_rows {col : Int} {pre last : Str} (hl : 10 ∉ tl last) : ∀ (rs ps : List Str) (t : Nat) (ls : List Str) (cur : Str), (∀ r ∈ rs, Fine r ∧ 10 ∉ tl r) → t ≤ ps.length →
    tl (Txt.join (Str.ofString "") ls) = ((ps.take t).map nl).flatten → tl cur = ((ps.drop t).map nl).flatten → tl pre = ((ps ++ rs).map nl).flatten ++ tl last →
    ∃ k : Nat, takenGo col rs ps.length t = (k : Int) ∧ k ≤ (ps ++ rs).length ∧
      tl (pcpGo col pre ⟨ls, cur, 0, false⟩ ((rs.map nl).flatten ++ tl last)).1 = (((ps ++ rs).take k).map nl).flatten ∧
      tl (pcpGo col pre ⟨ls, cur, 0, false⟩ ((rs.map nl).flatten ++ tl last)).2 = (tl pre).drop ((((ps ++ rs).take k).map nl).flatten).length := by
  intro rs
  induction rs with
  | nil =>
    intro ps t ls cur _ ht h1 h2 h3
    refine ⟨t, rfl, by simpa using ht, ?_, ?_⟩
    · simp only [List.map_nil, List.flatten_nil, List.nil_append, List.append_nil]
      rw [go_last last hl]; exact h1
    · simp only [List.map_nil, List.flatten_nil, List.nil_append, List.append_nil] at h3 ⊢
      rw [go_last last hl, tl_append, h2, h3]
      conv => rhs; rw [← List.take_append_drop t ps, List.map_append, List.flatten_append, List.append_assoc]
      rw [List.take_left' (by rw [List.length_take]; omega)]
      simp
  | cons r rs ih =>
    intro ps t ls cur hr ht h1 h2 h3
    obtain ⟨hf, h10⟩ := hr r (.head _)
    have hrs : ∀ r ∈ rs, Fine r ∧ 10 ∉ tl r := fun q hq => hr q (.tail _ hq)
    have e1 : ((r :: rs).map nl).flatten ++ tl last = tl r ++ 10 :: ((rs.map nl).flatten ++ tl last) := by simp [nl]
    have e2 : ps ++ r :: rs = (ps ++ [r]) ++ rs := by simp
    have e3 : (ps ++ [r]).length = ps.length + 1 := by simp
    have e4 : tl (cur ++ r ++ (⟨#[10]⟩ : Str)) = (((ps ++ [r]).drop t).map nl).flatten := by
      have : tl (⟨#[10]⟩ : Str) = [10] := rfl
      rw [tl_append, tl_append, h2, this, List.drop_append_of_le_length ht]
      simp [nl]
    rw [e1, go_row r hf h10]
    cases hb : (bareOf r != Str.ofString "") with
    | false =>
      simp only [Bool.false_eq_true, if_false]
      rw [takenGo_bare hb]
      rw [e2] at h3 ⊢
      rw [← e3]
      exact ih (ps ++ [r]) t ls _ hrs (by rw [e3]; omega) (by rw [List.take_append_of_le_length ht]; exact h1) e4 h3
    | true =>
      simp only [if_true]
      cases hs : shallow col r with
      | true =>
        simp only [if_true]
        rw [takenGo_brk hb hs]
        refine ⟨t, rfl, by rw [List.length_append]; omega, ?_, ?_⟩
        · rw [List.take_append_of_le_length ht]; exact h1
        · have e5 : (Txt.join (Str.ofString "") ls).length = (((ps.take t).map nl).flatten).length := by rw [← tl_len, h1]
          rw [List.take_append_of_le_length ht, ← e5]
          refine slice_from pre ?_
          rw [← tl_len pre, h3, e5, List.length_append, List.map_append, List.flatten_append, List.length_append]
          have := congrArg List.length (congrArg List.flatten (congrArg (List.map nl) (List.take_append_drop t ps)))
          rw [List.map_append, List.flatten_append, List.length_append] at this
          omega
      | false =>
        simp only [Bool.false_eq_true, if_false]
        rw [takenGo_next hb hs]
        have e6 : (0 : Int) + (ps.length : Int) + 1 = ((ps.length + 1 : Nat) : Int) := by omega
        rw [e6]
        rw [e2] at h3 ⊢
        rw [← e3]
        refine ih (ps ++ [r]) _ _ _ hrs (Nat.le_refl _) ?_ ?_ h3
        · rw [List.take_length, tl_join0, List.map_append, List.flatten_append]
          rw [tl_join0] at h1
          rw [h1]
          simp only [List.map_cons, List.map_nil, List.flatten_cons, List.flatten_nil, List.append_nil]
          rw [e4, ← List.flatten_append, ← List.map_append, ← List.take_append_of_le_length (l₂ := [r]) ht, List.take_append_drop]
        · rw [List.drop_length]
          have : tl (Str.ofString "") = [] := by decide
          exact this

/-- the law's two readings agree -/
theorem pcp_law (x : Str) (col : Int) (hf : ∀ c ∈ tl x, blank c = true ∨ c = 10 ∨ Unicode.isSpace c = false) :
    ∃ k : Nat, takenGo col (Txt.split x (Str.ofString "\n")).dropLast 0 0 = (k : Int) ∧ k ≤ (Txt.split x (Str.ofString "\n")).length ∧
      (pcp x col).1 = Txt.join (Str.ofString "") (((Txt.split x (Str.ofString "\n")).take k).map (· ++ Str.ofString "\n")) ∧
      (pcp x col).2 = Txt.slice x (some ((Txt.join (Str.ofString "") (((Txt.split x (Str.ofString "\n")).take k).map (· ++ Str.ofString "\n"))).length : Int)) none ∧
      ∃ z, tl x = tl (Txt.join (Str.ofString "") (((Txt.split x (Str.ofString "\n")).take k).map (· ++ Str.ofString "\n"))) ++ z := by
  obtain ⟨hne, hj, hfree⟩ := split_nl x
  have ht := congrArg tl hj
  rw [tl_join_nl _ hne] at ht
  generalize Txt.split x (Str.ofString "\n") = rows at *
  have hmem : ∀ r ∈ rows.dropLast, Fine r ∧ 10 ∉ tl r := fun r hr => by
    refine ⟨fun c hc => hf c ?_, hfree r ((List.dropLast_sublist rows).subset hr)⟩
    rw [← ht]
    exact List.mem_append_left _ (List.mem_flatten.mpr ⟨_, List.mem_map.mpr ⟨r, hr, rfl⟩, List.mem_append_left _ hc⟩)
  have hlast : 10 ∉ tl (rows.getLast?.getD (Str.ofString "")) := by
    rw [List.getLast?_eq_some_getLast hne]
    exact hfree _ (List.getLast_mem hne)
  obtain ⟨k, h1, h2, h3, h4⟩ := go_rows (col := col) (pre := x) hlast rows.dropLast [] 0 [] "" hmem (Nat.le_refl _) (by decide) (by decide) (by rw [List.nil_append]; exact ht.symm)
  rw [List.nil_append] at h2 h3 h4
  have e1 : (rows.dropLast.map nl).flatten ++ tl (rows.getLast?.getD (Str.ofString "")) = x.cps.toList := ht
  rw [e1] at h3 h4
  have hk : k ≤ rows.dropLast.length := h2
  have hk2 : rows.dropLast.take k = rows.take k := by
    rw [List.dropLast_eq_take, List.take_take, Nat.min_eq_left (by rw [List.length_dropLast] at hk; exact hk)]
  have e2 : tl (Txt.join (Str.ofString "") ((rows.take k).map (· ++ Str.ofString "\n"))) = ((rows.take k).map nl).flatten := by
    rw [tl_join0, List.map_map]
    congr 1
    refine List.map_congr_left fun r _ => ?_
    have : tl (Str.ofString "\n") = [10] := by decide
    show tl (r ++ Str.ofString "\n") = nl r
    rw [tl_append, this]; rfl
  rw [hk2] at h3 h4
  have e3 : (Txt.join (Str.ofString "") ((rows.take k).map (· ++ Str.ofString "\n"))).length = (((rows.take k).map nl).flatten).length := by rw [← tl_len, e2]
  refine ⟨k, h1, by rw [List.length_dropLast] at hk; omega, tl_inj (by rw [e2]; exact h3), tl_inj ?_, ((rows.dropLast.drop k).map nl).flatten ++ tl (rows.getLast?.getD (Str.ofString "")), ?_⟩
  rotate_left
  · rw [e2, ← hk2, ← List.append_assoc, ← List.flatten_append, ← List.map_append, List.take_append_drop]
    exact ht.symm
  rw [e3, slice_from x ?_]
  · exact h4
  · have := congrArg List.length h3
    rw [← this, tl_len]
    have h5 := congrArg List.length ht
    rw [tl_len, List.length_append] at h5
    have h6 : (((rows.take k).map nl).flatten).length ≤ ((rows.dropLast.map fun r => tl r ++ [10]).flatten).length := by
      rw [← hk2]
      have := congrArg List.length (congrArg List.flatten (congrArg (List.map nl) (List.take_append_drop k rows.dropLast)))
      rw [List.map_append, List.flatten_append, List.length_append] at this
      exact Nat.le_trans (Nat.le_add_right _ _) (Nat.le_of_eq this)
    rw [← tl_len, this]
    omega
end Mine
end

section
open PySem.Builtin.Str
namespace Mine
local macro_rules | `(tactic| walk_at "k_at") => `(tactic| first | (with_reducible exact At.head) | (refine' At.tail ?kt; case kt => walk_at "k_at") | (refine' At.inl ?kt; case kt => walk_at "k_at") | (refine' At.inr ?kt; case kt => walk_at "k_at"))
local macro_rules | `(tactic| walk_at "ite") => `(tactic| (k_openite; first | (refine ite_pos (by with_reducible assumption) ?_) | (refine ite_neg (by with_reducible assumption) ?_) | (refine ite_isFalse (by with_reducible assumption) ?_) | (refine split_bool ?_ ?_ <;> intro _) | (refine split_dec ?_ ?_ <;> intro _) | (refine Mine.ite_any ?_ ?_ <;> intro _)))
local macro_rules | `(tactic| walk_at "newList") => `(tactic| ((rename Sep _ _ => kS); k_dflt (refine' newList_S ?k1 ?k2 kS ?_ ?z; (case k1 => k_asm); (case k2 => k_asm); (case z => size_fits); k_whole); intro l' h' F' N' S'; clear kS; (try k_sweep)))
local macro_rules | `(tactic| walk_at "newTuple") => `(tactic| ((rename Sep _ _ => kS); k_dflt (refine' newTuple_S ?k1 ?k2 kS ?_ ?z; (case k1 => k_asm); (case k2 => k_asm); (case z => size_fits); k_whole); intro l' h' F' N' S'; clear kS; (try k_sweep)))
local macro_rules | `(tactic| walk_at "call builtin:list.append") => `(tactic| ((with_reducible show wpAny _ _ (call (Value.builtin _) [Value.ref _, _]) _ _ _); (rename Sep _ _ => kS); k_dflt (refine' append_S ?k1 ?k2 kS ?k3 ?_ ?z; (case k1 => k_asm); (case k2 => k_asm); (case k3 => walk_at "k_at"); (case z => first | with_reducible assumption | size_fits); k_whole); intro h' F' N' S'; clear kS; (try k_sweep)))
local macro_rules | `(tactic| walk_at "my_intro") => `(tactic| (
  (case ho => k_is); (case hcd => k_is)
  (case hbind => exact fun s X => (by first | exact BindsTo.of_eq rfl | exact binds_K X rfl (by k_is) rfl rfl rfl))
  (case hloc => exact locs rfl)
  (case hps => kst_all)
  (case hco => exact rfl); (case hgen => exact rfl); (case hk => exact rfl)
  (case hcell => decide)
  (case hdk => decide)))
local macro_rules | `(tactic| walk_at "call builtin:str.join") => `(tactic| ((with_reducible show wpAny _ _ (call (Value.builtin _) [Value.str _ _, Value.ref _]) _ _ _); k_dflt (refine' join_S ?N ?m ?i ?a ?b ?_; (case N => k_asm); (case m => k_mem); (case i => assumption); (case a => decide); (case b => first | assumption | omega); k_whole); intro t' k'))
local macro_rules | `(tactic| walk_at "go") => `(tactic| repeat' ((fail_if_success (with_reducible show wpAny _ _ (call (Value.ref _) _ _) _ _ _)); (fail_if_success (with_reducible show wpAny _ _ (pyIter _) _ _ _)); (fail_if_success (with_reducible show ∃ _, _)); first | walk1 | (dsimp only; walk1)))
local macro_rules | `(tactic| walk_at "subscriptTail") => `(tactic| ((with_reducible show wpAny _ _ (subscriptTail _ _ (Value.ref _) (Value.int _ _)) _ _ _); k_dflt (refine' item_S ?N ?m ?a ?b ?x ?_ ?s; (case N => k_asm); (case m => k_mem); (case a => first | with_reducible assumption | omega); (case b => first | with_reducible assumption | omega); (case x => with_reducible assumption); (case s => with_unfolding_all rfl); k_whole)))
local macro_rules | `(tactic| walk_at "call builtin:len") => `(tactic| ((with_reducible show wpAny _ _ (call (Value.builtin "len") [Value.ref _]) _ _ _); k_dflt (refine' len_S ?N ?m ?z ?_; (case N => k_asm); (case m => k_mem); (case z => first | with_reducible assumption | (simp only [sizeLine_eq]; omega)); k_whole)))
local macro_rules | `(tactic| walk_at "setAttr ref") => `(tactic| ((rename Sep _ _ => kS); k_dflt (refine' set_S ?k1 ?k2 ?k3 kS ?kx ?k4 ?k5 ?k6 ?k7 ?ku ?kh ?kz ?_; (case k1 => k_asm); (case k2 => k_asm); (case k3 => k_asm); (case kx => k_mem); (case ku => walk_at "k_at"); (case k4 => k_is); (case k5 => k_is); (case k6 => k_is); (case k7 => k_is); (case kh => assumption); (case kz => first | decide | omega); k_whole); intro h' HA' F' N' S'; generalize PySem.W.putL _ _ _ _ _ = es' at HA' N' S'; generalize putN _ _ _ = n' at N' S'; clear kS; (try k_sweep)))
local macro_rules | `(tactic| walk_at "getAttr ref") => `(tactic| k_dflt (first
  | (refine' get_S ?k1 ?k2 ?k3 ?kx ?kd ?kh ?g1 ?g2 ?g3 ?g4 ?gf ?gv ?_; (case k1 => k_asm); (case k2 => k_asm); (case k3 => k_asm); (case kx => k_mem); (case kd => k_mem); (case kh => assumption); (case gf => exact rfl); (case g1 => k_is); (case g2 => k_is); (case g3 => k_is); (case g4 => k_is); (case gv => k_handed); k_whole)
  | (refine' getCls_S ?k1 ?k2 ?k3 ?kx ?kd ?kh ?g1 ?g2 ?g3 ?g4 ?gv ?gc ?gf ?_; (case k1 => k_asm); (case k2 => k_asm); (case k3 => k_asm); (case kx => k_mem); (case kd => k_mem); (case kh => assumption); (case gf => exact rfl); (case g1 => k_is); (case g2 => k_is); (case g3 => k_is); (case g4 => k_is); (case gv => k_handed); (case gc => decide +kernel); k_whole)))
local macro_rules | `(tactic| walk_at "getMethod ref") => `(tactic| k_dflt (refine' meth_S ?k1 ?k2 ?k3 ?kx ?kd ?kh ?g1 ?g2 ?g3 ?gf ?_; (case k1 => k_asm); (case k2 => k_asm); (case k3 => k_asm); (case kx => k_mem); (case kd => k_mem); (case kh => assumption); (case gf => exact rfl); (case g1 => k_is); (case g2 => k_is); (case g3 => k_is); k_whole))
local macro_rules | `(tactic| walk_at "eval Dict nil nil") => `(tactic| ((rename Sep _ _ => kS); k_dflt (refine' newDict_S (Top.nolimit (by k_asm)) ?k1 ?k2 kS ?_; (case k1 => k_asm); (case k2 => k_asm); k_whole); intro l' h' F' N' S' hm'; clear kS; (try k_sweep)))
section
variable {w : World} {p : Program} {loose : List Str} {mean : ExcName → Option Value} {mg mb : Str → Option Value} {d u : Nat} {gd : Option (List Code)} {outer : List Env} {A₀ : Around} {base g : Heap} {L f : Addr} {cdv : Value} {R : List (Addr × Obj)}
set_option maxHeartbeats 4000000 in
theorem law_s1 (X : (Mine.hd.heap_39 w.params).In g) {l : Addr} {s : Shared} {m : Str → Option Value} {c : Int} {t : Tok} (F : Fr g L s.heap (kstB m [("script", .ref l), ("col", .int c t)])) (N : News g L s.heap ([] ++ R)) (S : Sep [] R) :
    wpAny (model PySem.Challenge.rw_bl0003_02.row.prog w) (ktrTop d u gd "law" lawScope L f cdv [] outer) (exec (lawS 1) (envX "law" lawScope L f cdv []))
      (NextTo fun s' => ∃ t', LS g L R s (ps3 l c t "" t') [] s') (fun _ _ => False) s := by
  revert X
  k_fill
  intro X
  rw [show lawScope = Scope.mk _ _ _ _ _ from rfl]
  show wpAny _ _ (exec (Stmt.Assign _ _ _) _) _ _ _
  walk_at "go"
  exact ⟨rfl, _, LS.intro (by assumption) (by assumption) (by assumption) (by kst_all)⟩
set_option maxHeartbeats 4000000 in
theorem law_s4 (X : (Mine.hd.heap_39 w.params).In g) {l D : Addr} {us : List Value} {nn : Nat} {s : Shared} {m : Str → Option Value} {c : Int} {t t' : Tok} {x : Str} (F : Fr g L s.heap (kstB m (("rows", .ref D) :: ps3 l c t x t'))) (N : News g L s.heap ([(D, listOf us.toArray nn)] ++ R)) (S : Sep [(D, listOf us.toArray nn)] R) :
    wpAny (model PySem.Challenge.rw_bl0003_02.row.prog w) (ktrTop d u gd "law" lawScope L f cdv [] outer) (exec (lawS 4) (envX "law" lawScope L f cdv []))
      (NextTo fun s' => ∃ tt, LS g L R s (("taken", .int 0 tt) :: ("rows", .ref D) :: ps3 l c t x t') [(D, listOf us.toArray nn)] s') (fun _ _ => False) s := by
  revert X
  k_fill
  intro X
  rw [show lawScope = Scope.mk _ _ _ _ _ from rfl]
  show wpAny _ _ (exec (Stmt.Assign _ _ _) _) _ _ _
  walk_at "go"
  exact ⟨rfl, _, LS.intro (by assumption) (by assumption) (by assumption) (by kst_all)⟩

theorem okc_fine {x : Str} (h : ∀ c ∈ x.cps.toList, okc c = true) : (∀ c ∈ tl x, blank c = true ∨ c = 10 ∨ Unicode.isSpace c = false) ∧ ∀ c ∈ tl x, c < 128 := by
  refine ⟨fun c hc => ?_, fun c hc => ?_⟩ <;>
  · have := h c hc
    simp only [okc, Bool.or_eq_true, beq_iff_eq] at this
    rcases this with (((((h | h) | h) | h) | h) | h) | h <;> subst h <;> decide +kernel
theorem strOk_of {x : Str} (h : ∀ c ∈ tl x, c < 128) : PyData.strOk x = true := by
  unfold PyData.strOk
  rw [← Array.all_toList, List.all_eq_true]
  intro c hc
  have := h c hc
  simpa using Nat.lt_trans this (by decide)

theorem law_body (B : Below A₀ base outer g) (X : (Mine.hd.heap_39 w.params).In g) (T : Top p loose mean mg mb g) {l : Addr} {vs : List Value} {ns : List Int} (hL : g.IsList l vs.toArray) (hI : IntsAre vs ns) (hn : ns.length ≤ 63) (hd : d + 10 ≤ recursionLimit) (hu : u + 100 ≤ cLine)
    {s : Shared} {m : Str → Option Value} (F : Fr g L s.heap (kstB m [("script", .ref l)])) (N : News g L s.heap ([] ++ R)) (S : Sep [] R) :
    wpAny (model PySem.Challenge.rw_bl0003_02.row.prog w) (ktrTop d u gd "law" lawScope L f cdv [] outer) (execs lawBody (envX "law" lawScope L f cdv [])) (RetTrue g L s) (fun _ _ => False) s := by
  show wpAny _ _ (execs [lawS 0, lawS 1, lawS 2, lawS 3, lawS 4, lawS 5, lawS 6, lawS 7, lawS 8] _) _ _ _
  refine execs_cut _ (law_s0 B X T hL hI hn F N S) ?_
  rintro _ ⟨c, t, h0, h7, h1, tk1, m1, rfl, F1, N1, S1⟩
  refine execs_cut _ (law_s1 X F1 N1 S1) ?_
  rintro _ ⟨t', h2, tk2, m2, rfl, F2, N2, S2⟩
  refine execs_cut _ (law_s2 B X T hL hI hn hd hu F2 N2 S2) ?_
  rintro _ ⟨x, t2, hx, hok, h3, tk3, m3, rfl, F3, N3, S3⟩
  refine execs_cut _ (law_s3 B X T hx F3 N3 S3) ?_
  rintro _ ⟨D, us, nn, hU, h4, tk4, m4, rfl, F4, N4, S4⟩
  refine execs_cut _ (law_s4 X F4 N4 S4) ?_
  rintro _ ⟨tt, h5, tk5, m5, rfl, F5, N5, S5⟩
  obtain ⟨fine, low⟩ := okc_fine hok
  obtain ⟨k, hk, hk2, e1, e2, z, hzz⟩ := pcp_law x c fine
  obtain ⟨hlen, hrl⟩ := split_len x
  have hne := (split_nl x).1
  have hr1 : 1 ≤ (Txt.split x (Str.ofString "\n")).length := List.length_pos_iff.mpr hne
  refine execs_cut _ (law_s5 B X T hU (by omega) hr1 (fun r hr => Nat.le_trans (hrl r hr) hx) hx F5 N5 S5) ?_
  rintro _ ⟨tk, h6, tk6, m6, rfl, F6, N6, S6⟩
  rw [hk] at F6
  refine execs_cut _ (law_s6 B X T hU (by omega) (fun r hr => Nat.le_trans (hrl r hr) hx) (k := (k : Int)) (by omega) (by omega) F6 N6 S6) ?_
  rintro _ ⟨ty, h8, tk8, m8, rfl, F8, N8, S8⟩
  rw [show (k : Int).toNat = k by omega] at F8
  refine execs_cut _ (law_s7 B X T hd hu hx F8 N8 S8) ?_
  rintro _ ⟨a, u1, u2, h9, tk9, m9, rfl, F9, N9, S9⟩
  rw [e1, e2] at N9 S9
  generalize hy : Txt.join (Str.ofString "") (((Txt.split x (Str.ofString "\n")).take k).map (· ++ Str.ofString "\n")) = y at *
  have hylen : y.length ≤ x.length ∧ ∀ q ∈ tl y, q ∈ tl x := by
    refine ⟨?_, fun q hq => hzz ▸ List.mem_append_left _ hq⟩
    have := congrArg List.length hzz
    rw [List.length_append, tl_len, tl_len] at this
    omega
  have hz : ∀ q ∈ tl (Txt.slice x (some (y.length : Int)) none), q ∈ tl x := by
    rw [slice_from x hylen.1]
    exact fun q hq => List.mem_of_mem_drop hq
  refine wpAny_execs_cons (wpAny_mono (law_s8 B X T hd hu hx (Nat.le_trans hylen.1 hx) (strOk_of fun q hq => low q (hylen.2 q hq)) (strOk_of fun q hq => low q (hz q hq)) F9 N9 S9) (fun fl s' h => ?_) fun _ _ h => h)
  obtain ⟨h', tk', m', rfl, rfl, F'⟩ := h
  exact ⟨h', tk', m', rfl, rfl, F'⟩
end
set_option maxHeartbeats 4000000 in
theorem main : PySem.Challenge.rw_bl0003_02.Holds := Mine.hd (by
  k_go0
  rename Fr _ _ _ _ => F0
  rename News _ _ _ _ => N0
  rename Top _ _ _ _ _ _ => T
  rename Frag.In _ _ => X
  rename IntsAre _ _ => hI
  rename Heap.IsList _ _ _ => hL
  rename Below _ _ _ _ => B
  rename _ = #[] => hg
  rename ¬ _ < _ => hn
  refine wpAny_mono (law_body (R := []) B X T hL hI (by omega) (by decide) (by decide) (fr_env [("script", _)] (by kst_all) F0) N0 (Sep.nil _)) (fun fl s' h => ?_) (fun _ _ h => h.elim)
  obtain ⟨h', tk', m', rfl, rfl, F'⟩ := h
  wrow_close)
end Mine
end

theorem PySem.Challenge.cw_bl0003_02_holds : PySem.Challenge.rw_bl0003_02.Holds :=
  Mine.main
