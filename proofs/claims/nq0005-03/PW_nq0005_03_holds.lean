import PyProof.Rows.All
import Wide.All
import OpenK.AllK
import Wide.FinOn
import Lean
import PySem.Challenge.RW_nq0005_03
open PySem PySem.W PyProof.Rows
set_option Elab.async false

-- Base
namespace Mine
open PySem.Calls PySem.Spec
abbrev Led := List (Addr × Obj)
def FnSpec (prog : Program) (w : World) (K : Frag) (p : Program) (loose : List Str) (mean : ExcName → Option Value) (mg mb : Str → Option Value) (f : Value) (args : List Value) (d u : Nat) (news : Led) (R : Value → Led → Prop) : Prop :=
  ∀ (dp un : Nat) (gd : Option (List Code)) (cn : Str) (cs : Scope) (a : Addr) (ccd : Value) (cl : List (Str × Addr)) (outer : List Env) (A₀ : Around) (base h₀ : Heap) (L : Addr) (m : Str → Option Value) (s : Shared) (Q E : Value → Shared → Prop),
    Below A₀ base outer h₀ → Fr h₀ L s.heap m → K.In h₀ → News h₀ L s.heap news → Top p loose mean mg mb h₀ → cs.kind = .function → dp + d < recursionLimit → un + u < cLine →
    (∀ r news' h' tk', Fr h₀ L h' m → News h₀ L h' news' → R r news' → Q r { s with heap := h', toks := tk' }) →
    wpAny (model prog w) (ktrTop dp un gd cn cs L a ccd cl outer) (call f args) Q E s
theorem News.sub {h₀ h : Heap} {L : Addr} {news news' : Led} (N : News h₀ L h news') (hs : ∀ p ∈ news, p ∈ news') : News h₀ L h news := fun p hp => N p (hs p hp)
theorem news_swap2 {h₀ h : Heap} {L : Addr} {more : Led} {a b : Addr × Obj} (N : News h₀ L h (more ++ [a, b])) : News h₀ L h (a :: b :: more) := News.sub N fun p hp => by
  rcases List.mem_cons.mp hp with rfl | hp
  · simp
  · rcases List.mem_cons.mp hp with rfl | hp
    · simp
    · exact List.mem_append_left _ hp
theorem ord2 {more : Led} {a b : Addr × Obj} (h : ∀ p ∈ more, ∀ q ∈ [a, b], q.1 < p.1) : (∀ p ∈ more, p.1 ≠ a.1) ∧ (∀ p ∈ more, p.1 ≠ b.1) := ⟨fun p hp => Nat.ne_of_gt (h p hp a (by simp)), fun p hp => Nat.ne_of_gt (h p hp b (by simp))⟩
theorem sub_cons {l l' : Led} {q : Addr × Obj} (h : ∀ p ∈ l, p ∈ l') : ∀ p ∈ l, p ∈ q :: l' := fun p hp => .tail _ (h p hp)
theorem FnSpec.mono {prog : Program} {w : World} {K : Frag} {p : Program} {loose : List Str} {mean : ExcName → Option Value} {mg mb : Str → Option Value} {f : Value} {args : List Value} {d u d' u' : Nat} {news news₁ : Led} {R R' : Value → Led → Prop}
    (h : FnSpec prog w K p loose mean mg mb f args d u news R) (hn : ∀ q ∈ news, q ∈ news₁) (hd : d ≤ d') (hu : u ≤ u') (hr : ∀ r n, R r n → ∃ n', (∀ q ∈ n', q ∈ n) ∧ R' r n') : FnSpec prog w K p loose mean mg mb f args d' u' news₁ R' := by
  intro dp un gd cn cs a ccd cl outer A₀ base h₀ L m s Q E B F X N T hk hd' hu' hret
  refine h dp un gd cn cs a ccd cl outer A₀ base h₀ L m s Q E B F X (News.sub N hn) T hk (by omega) (by omega) fun r n h' tk' F' N' hR => ?_
  obtain ⟨n', hs, hR'⟩ := hr r n hR
  exact hret r n' h' tk' F' (News.sub N' hs) hR'
theorem FnSpec.use {prog : Program} {w : World} {K : Frag} {p : Program} {loose : List Str} {mean : ExcName → Option Value} {mg mb : Str → Option Value} {f : Value} {args : List Value} {d u : Nat} {news : Led} {R : Value → Led → Prop}
    {dp un : Nat} {gd : Option (List Code)} {cn : Str} {cs : Scope} {a : Addr} {ccd : Value} {cl : List (Str × Addr)} {outer : List Env} {A₀ : Around} {base h₀ : Heap} {L : Addr} {m : Str → Option Value} {s : Shared} {Q E : Value → Shared → Prop}
    (S : FnSpec prog w K p loose mean mg mb f args d u news R) (B : Below A₀ base outer h₀) (F : Fr h₀ L s.heap m) (X : K.In h₀) (N : News h₀ L s.heap news) (T : Top p loose mean mg mb h₀) (hk : cs.kind = .function) (hd : dp + d < recursionLimit) (hu : un + u < cLine)
    (ret : ∀ r news' h' tk', Fr h₀ L h' m → News h₀ L h' news' → R r news' → Q r { s with heap := h', toks := tk' }) :
    wpAny (model prog w) (ktrTop dp un gd cn cs L a ccd cl outer) (call f args) Q E s := S _ _ _ _ _ _ _ _ _ _ _ _ _ _ _ _ _ B F X N T hk hd hu ret
def ITurn {σ : Type} (h₀ : Heap) (L I : Addr) (oI : Obj) (s : Shared) (x : Str) (ps : σ → List (Str × Value)) (stored : List Str) (m₀ : Str → Option Value) (Inv' : σ → Led → Prop) (Q : Flow → Shared → Prop) (f : Flow) (s₂ : Shared) : Prop :=
  match f with
  | .ret v => Q (.ret v) s₂
  | .brk => Q .next s₂
  | _ => ∃ (c : σ) (h' : Heap) (tk : Nat) (m' : Str → Option Value) (nx : Led), s₂ = { s with heap := h', toks := tk } ∧ Fr h₀ L h' m' ∧ News h₀ L h' ((I, oI) :: nx) ∧ (∀ p ∈ nx, p.1 ≠ I) ∧ (∀ p ∈ ps c, m' p.1 = some p.2) ∧ (∀ z, z ≠ x → (∀ p ∈ ps c, z ≠ p.1) → stored.contains z = false → m' z = m₀ z) ∧ Inv' c nx
section
variable {prog : Program} {w : World} {A : Around} {E : Value → Shared → Prop} {s : Shared} {env : Env} {h₀ : Heap} {x : Str} {body : List Stmt} {Q : Flow → Shared → Prop}
theorem iturn_next {σ : Type} {L I : Addr} {oI : Obj} {ps : σ → List (Str × Value)} {stored : List Str} {m₀ m' : Str → Option Value} {Inv' : σ → Led → Prop} {h' : Heap} {tk : Nat} (c : σ) (nx : Led)
    (F : Fr h₀ L h' m') (N : News h₀ L h' ((I, oI) :: nx)) (ha : ∀ p ∈ nx, p.1 ≠ I) (hk : ∀ p ∈ ps c, m' p.1 = some p.2) (hr : ∀ z, z ≠ x → (∀ p ∈ ps c, z ≠ p.1) → stored.contains z = false → m' z = m₀ z) (hi : Inv' c nx) :
    ITurn h₀ L I oI s x ps stored m₀ Inv' Q .next { s with heap := h', toks := tk } := ⟨c, h', tk, m', nx, rfl, F, N, ha, hk, hr, hi⟩
theorem iloop {σ : Type} {I : Addr} {oI₀ : Obj} {fp : List Addr} {n : Nat} {P : Nat → Value → Prop} {St : Nat → Heap → Prop} {m₀ : Str → Option Value} {news : Led} (ps : σ → List (Str × Value)) (stored : List Str) (Inv : Nat → σ → Led → Prop) (c₀ : σ)
    (W : Walks prog w A I fp [I] n P St) (hLf : env.locals ∉ fp) (hfp : ∀ a ∈ fp, a = I ∨ (∃ o, h₀.get? a = some o) ∨ (∃ o, ∀ i c nx, Inv i c nx → (a, o) ∈ nx)) (hst : St 0 s.heap)
    (F : Fr h₀ env.locals s.heap m₀) (N : News h₀ env.locals s.heap ((I, oI₀) :: news)) (hnI : ∀ p ∈ news, p.1 ≠ I) (hk : ∀ p ∈ ps c₀, m₀ p.1 = some p.2) (h0 : Inv 0 c₀ news)
    (hIfp : I ∈ fp) (hob : ∀ i h, St i h → ∃ o, h.get? I = some o)
    (turn : ∀ i c v nx (u : Str → Option Value) h tk oI, i < n → P i v → Inv i c nx → (∀ p ∈ nx, p.1 ≠ I) → Fr h₀ env.locals h (fun y => if y = x then some v else kstB (fun z => if stored.contains z then u z else m₀ z) (ps c) y) → News h₀ env.locals h ((I, oI) :: nx) →
      wpAny (model prog w) A (execs body env) (ITurn h₀ env.locals I oI { s with heap := h, toks := tk } x ps stored m₀ (Inv (i + 1)) Q) E { s with heap := h, toks := tk })
    (done : ∀ c nx (u : Str → Option Value) h tk, Inv n c nx → (∀ p ∈ nx, p.1 ≠ I) → Fr h₀ env.locals h (fun y => if y = x then u y else kstB (fun z => if stored.contains z then u z else m₀ z) (ps c) y) → News h₀ env.locals h nx → Q .next { s with heap := h, toks := tk }) :
    LoopAtV prog w A h₀ env x body Q E (.ref I) s := by
  have hI0 : h₀.get? I = none := (N _ (.head _)).2.2
  refine ⟨I, fp, [I], n, P, St, m₀, news, (fun i m nx => ∃ c : σ, (∀ p ∈ ps c, m p.1 = some p.2) ∧ (∀ z, z ≠ x → (∀ p ∈ ps c, z ≠ p.1) → stored.contains z = false → m z = m₀ z) ∧ Inv i c nx), rfl, W, hLf,
    (fun b hb => by rw [List.mem_singleton.mp hb]; exact hI0), (fun p hp hq => hnI p hp (List.mem_singleton.mp hq)), hst, F, (fun p hp => N p (.tail _ hp)), ⟨c₀, hk, fun _ _ _ _ => rfl, h0⟩, ?_, ?_⟩
  · rintro i v m₁ nx s₁ own ⟨hh, tk, rfl⟩ hin hP ⟨c, h1, h2, hInv⟩ hoff hown hget hmem hst' F₁ N₁
    obtain ⟨oI, hoI⟩ : ∃ oI, hh.get? I = some oI := hob _ _ hst'
    have hIown : (I, oI) ∈ own := hmem I hIfp hI0 oI hoI
    have N₂ : News h₀ env.locals hh ((I, oI) :: nx) := fun p hp => by
      rcases List.mem_cons.mp hp with rfl | hp
      · exact N₁ _ (List.mem_append_left _ hIown)
      · exact N₁ _ (List.mem_append_right _ hp)
    refine wpAny_mono (turn i c v nx m₁ hh tk oI hin hP hInv (fun p hp hq => hoff p hp (List.mem_singleton.mpr hq)) (kst_fr h1 h2 F₁) N₂) (fun f s₂ q => ?_) fun _ _ e => e
    have fin : (∃ (c : σ) (h' : Heap) (tk' : Nat) (m' : Str → Option Value) (nx : Led), s₂ = { ({ s with heap := hh, toks := tk } : Shared) with heap := h', toks := tk' } ∧ Fr h₀ env.locals h' m' ∧ News h₀ env.locals h' ((I, oI) :: nx) ∧ (∀ p ∈ nx, p.1 ≠ I) ∧ (∀ p ∈ ps c, m' p.1 = some p.2) ∧ (∀ z, z ≠ x → (∀ p ∈ ps c, z ≠ p.1) → stored.contains z = false → m' z = m₀ z) ∧ Inv (i + 1) c nx) →
        LoopStepU h₀ env.locals [I] own (fun m nx => ∃ c : σ, (∀ p ∈ ps c, m p.1 = some p.2) ∧ (∀ z, z ≠ x → (∀ p ∈ ps c, z ≠ p.1) → stored.contains z = false → m z = m₀ z) ∧ Inv (i + 1) c nx) { s with heap := hh, toks := tk } .next s₂ := by
      rintro ⟨c', h', tk', m', nx', rfl, F', N', ha', hk', hr', hi'⟩
      refine ⟨rfl, h', tk', m', nx', rfl, F', fun p hp => ?_, fun p hp hq => ha' p hp (List.mem_singleton.mp hq), c', hk', hr', hi'⟩
      rcases List.mem_append.mp hp with hp | hp
      · have hpg := hget p hp
        rcases hfp p.1 (hown p hp) with e | ⟨o, ho⟩ | ⟨o, ho⟩
        · have : p = (I, oI) := by
            rw [e] at hpg
            exact Prod.ext e (Option.some.inj (hpg.symm.trans hoI))
          rw [this]; exact N' _ (.head _)
        · have := (N₁ p (List.mem_append_left _ hp)).2.2; rw [ho] at this; cases this
        · have h3 := (N₁ _ (List.mem_append_right _ (ho _ _ _ hInv))).1
          have : p = (p.1, o) := Prod.ext rfl (Option.some.inj (hpg.symm.trans h3))
          rw [this]; exact N' _ (.tail _ (ho _ _ _ hi'))
      · exact N' _ (.tail _ hp)
    cases f with
    | ret v => exact .ret q
    | brk => exact .brk q
    | next => exact .next (fin q)
    | cont => exact .cont (fin q)
  · rintro h' tk m' nx F' N' hoff ⟨c, h1, h2, hInv⟩
    exact done c nx m' h' tk hInv (fun p hp hq => hoff p hp (List.mem_singleton.mpr hq)) (kst_frOut h1 h2 F') N'
end
abbrev bytesIt (b : Array UInt8) (t : Tok) (i : Nat) : Obj := { cls := .type "bytes_iterator", data := .fields #[.bytes b t, .int i 0] }
abbrev listIt (l : Addr) (i : Nat) : Obj := { cls := .type "list_iterator", data := .fields #[.ref l, .int i 0] }
section
variable {prog : Program} {w : World} {A : Around} {E : Value → Shared → Prop} {s : Shared} {env : Env} {h₀ : Heap} {L : Addr} {m : Str → Option Value} {news : Led}
theorem iter_any {x : Value} {Q : Value → Shared → Prop} (h : wpAny (model prog w) A.in1 (pyIter x) Q E s) : wpAny (model prog w) A (call (.builtin "iter") [x]) Q E s := by
  refine call_function_entry (by decide +kernel) (by decide +kernel) kdk_entry_iter (kdk_args_iter _) ?_
  unfold Builtin.«iter»
  refine wpAny_bind (m := someArgs "iter" 1 2 _) (wpAny_of_eq (a := [x]) (by first | rfl | kernel_rfl!) ?_)
  show wpAny _ _ (pyIter x >>= _) _ _ _
  exact wpAny_bind (wpAny_mono h (fun r s' hq => wpAny_pure ⟨_, rfl, hq⟩) fun _ _ e => e)
theorem iter_bytes {b : Array UInt8} {t : Tok} {Q : Value → Shared → Prop} (F : Fr h₀ L s.heap m) (N : News h₀ L s.heap news)
    (h : ∀ I h', Fr h₀ L h' m → News h₀ L h' ((I, bytesIt b t 0) :: news) → (∀ p ∈ news, p.1 < I) → Q (.ref I) { s with heap := h' }) : wpAny (model prog w) A (call (.builtin "iter") [.bytes b t]) Q E s :=
  iter_any (KBw.pyIter_bytes (h _ _ (F.push _) (News.push F N _ rfl) fun q hq => Heap.lt_size (N q hq).1))
theorem is_other_y {x y : Addr} {ox oy : Obj} {Q : Value → Shared → Prop} (hxy : x ≠ y) (hx : s.heap.get? x = some ox) (hy : s.heap.get? y = some oy) (hnt : oy.cls ≠ .type "tuple")
    (h : Q (.bool false) s) : wpAny (model prog w) A (compareOp .Is (.ref x) (.ref y)) Q E s := by
  show wpAny _ A (do return .bool (← isSame (.ref x) (.ref y))) Q E s
  refine wpAny_bind ?_
  show wpAny _ A (if (x == y) = true then pure true else _) _ E s
  rw [if_neg (by simpa using hxy)]
  refine wpAny_bind (wpAny_load hx (wpAny_bind (wpAny_load hy ?_)))
  split
  · rename_i _ h1 _ _; exact absurd h1 hnt
  · exact wpAny_pure (wpAny_pure h)
/-- a value that is not the missing mark -/
def Told (v : Value) (news : Led) : Prop := (∃ i t, v = .int i t) ∨ ∃ t o, v = .ref t ∧ (t, o) ∈ news
theorem Told.more {v : Value} {q : Addr × Obj} (h : Told v news) : Told v (q :: news) := h.imp id fun ⟨t, o, e, hm⟩ => ⟨t, o, e, .tail _ hm⟩
theorem is_missing {v : Value} {y : Addr} {oy : Obj} {Q : Value → Shared → Prop} (hv : Told v news) (F : Fr h₀ L s.heap m) (N : News h₀ L s.heap news) (hy : h₀.get? y = some oy) (hnt : oy.cls ≠ .type "tuple")
    (h : Q (.bool false) s) : wpAny (model prog w) A (compareOp .Is v (.ref y)) Q E s := by
  rcases hv with ⟨i, t, rfl⟩ | ⟨t, o, rfl, hm⟩
  · exact wpAny_is_other rfl (by intro e; cases e) h
  · refine is_other_y ?_ (N _ hm).1 (F.keep _ _ hy) hnt h
    rintro rfl
    have := (N _ hm).2.2
    rw [hy] at this; cases this
theorem item_list {value slice : PySem.Expr} {l : Addr} {vs : List Value} {nn : Nat} {k : Int} {u : Tok} {v : Value} {Q : Value → Shared → Prop} (N : News h₀ L s.heap news) (hl : (l, listOf vs.toArray nn) ∈ news) (h0 : 0 ≤ k) (hhi : k < 2 ^ 62) (hx : vs[k.toNat]? = some v) (h : Q v s)
    (hs : subscripted slice false (.ref l) (.int k u) = operate [.ref l, .int k u] (getItem (.ref l) (.int k u)) := by with_unfolding_all rfl) :
    wpAny (model prog w) A (subscriptTail value slice (.ref l) (.int k u)) Q E s :=
  have hl' : s.heap.IsList l vs.toArray := ⟨_, (N _ hl).1, rfl, nn, rfl⟩
  tail_any hl'.typeIs slot_list_getitem.lookup (wpAny_getItem_list hl' h0 (by omega) (by simpa using hx) h) hs
abbrev tupO (vs : List Value) : Obj := { cls := .type "tuple", data := .seq vs.toArray }
theorem loop_bytes {σ : Type} {x : Str} {body : List Stmt} {Q : Flow → Shared → Prop} {I : Addr} {b : Array UInt8} {t : Tok} {m₀ : Str → Option Value} (ps : σ → List (Str × Value)) (stored : List Str) (Inv : Nat → σ → Led → Prop) (c₀ : σ)
    (hh : A.handled = none) (F : Fr h₀ env.locals s.heap m₀) (N : News h₀ env.locals s.heap ((I, bytesIt b t 0) :: news)) (hnI : ∀ p ∈ news, p.1 ≠ I) (hk : ∀ p ∈ ps c₀, m₀ p.1 = some p.2) (h0 : Inv 0 c₀ news)
    (turn : ∀ i c (ch : UInt8) (tc : Tok) nx (u : Str → Option Value) h tk oI, b[i]? = some ch → Inv i c nx → (∀ p ∈ nx, p.1 ≠ I) → Fr h₀ env.locals h (fun y => if y = x then some (.int ch.toNat tc) else kstB (fun z => if stored.contains z then u z else m₀ z) (ps c) y) → News h₀ env.locals h ((I, oI) :: nx) →
      wpAny (model prog w) A (execs body env) (ITurn h₀ env.locals I oI { s with heap := h, toks := tk } x ps stored m₀ (Inv (i + 1)) Q) E { s with heap := h, toks := tk })
    (done : ∀ c nx (u : Str → Option Value) h tk, Inv b.size c nx → (∀ p ∈ nx, p.1 ≠ I) → Fr h₀ env.locals h (fun y => if y = x then u y else kstB (fun z => if stored.contains z then u z else m₀ z) (ps c) y) → News h₀ env.locals h nx → Q .next { s with heap := h, toks := tk }) :
    wpAny (model prog w) A (pyIter (.ref I)) (fun it s₂ => LoopAtV prog w A h₀ env x body Q E it s₂) E s := by
  have hIt : KBw.IsBytesIter s.heap I b t 0 := ⟨_, (N _ (.head _)).1, rfl, rfl⟩
  refine KBw.pyIter_self hIt ?_
  refine iloop ps stored Inv c₀ (KBw.walks hh I b t) ?_ (fun a ha => .inl (List.mem_singleton.mp ha)) hIt F N hnI hk h0 (List.mem_singleton.mpr rfl) (fun i h st => let ⟨o, ho, _⟩ := st; ⟨o, ho⟩) ?_ done
  · intro hm; exact (N _ (.head _)).2.1 (List.mem_singleton.mp hm).symm
  · rintro i c v nx u h tk oI _ ⟨ch, tc, hc, rfl⟩ hi ha F' N'
    exact turn i c ch tc nx u h tk oI hc hi ha F' N'
theorem loop_range {σ : Type} {x : Str} {body : List Stmt} {Q : Flow → Shared → Prop} {r : Addr} {a b c : Int} {t u v : Tok} {n : Nat} {m₀ : Str → Option Value} (ps : σ → List (Str × Value)) (stored : List Str) (Inv : Nat → σ → Led → Prop) (c₀ : σ)
    (hh : A.handled = none) (hr : IsRange s.heap r a b c t u v) (hsmall : Builtin.Range.small a b c = true) (hsz : Builtin.Range.rangeSize a b c = (n : Int)) (F : Fr h₀ env.locals s.heap m₀) (N : News h₀ env.locals s.heap news) (hk : ∀ p ∈ ps c₀, m₀ p.1 = some p.2) (h0 : Inv 0 c₀ news)
    (turn : ∀ I i st (tc : Tok) nx (u : Str → Option Value) h tk oI, (∀ p ∈ news, p.1 < I) → i < n → Inv i st nx → (∀ p ∈ nx, p.1 ≠ I) → Fr h₀ env.locals h (fun y => if y = x then some (.int (a + i * c) tc) else kstB (fun z => if stored.contains z then u z else m₀ z) (ps st) y) → News h₀ env.locals h ((I, oI) :: nx) →
      wpAny (model prog w) A (execs body env) (ITurn h₀ env.locals I oI { s with heap := h, toks := tk } x ps stored m₀ (Inv (i + 1)) Q) E { s with heap := h, toks := tk })
    (done : ∀ st nx (u : Str → Option Value) h tk, Inv n st nx → Fr h₀ env.locals h (fun y => if y = x then u y else kstB (fun z => if stored.contains z then u z else m₀ z) (ps st) y) → News h₀ env.locals h nx → Q .next { s with heap := h, toks := tk }) :
    wpAny (model prog w) A (pyIter (.ref r)) (fun it s₂ => LoopAtV prog w A h₀ env x body Q E it s₂) E s := by
  refine wpAny_pyIter_range hr hsmall ?_
  have W := Walks.range (prog := prog) (w := w) hh s.heap.objs.size a c n
  have hnl : ∀ p ∈ news, p.1 < s.heap.objs.size := fun p hp => Heap.lt_size (N p hp).1
  refine iloop ps stored Inv c₀ W ?_ (fun a ha => .inl (List.mem_singleton.mp ha)) ?_ (F.push _) (News.push F N _ rfl) (fun p hp => Nat.ne_of_lt (hnl p hp)) hk h0 (List.mem_singleton.mpr rfl) (fun i h st => ⟨_, st⟩) ?_ (fun st nx u h tk hi _ F' N' => done st nx u h tk hi F' N')
  · intro hm
    exact absurd F.ns.lt ((List.mem_singleton.mp hm) ▸ Nat.lt_irrefl _)
  · show (s.heap.push _).get? _ = _
    rw [Heap.get?_push_size _ rfl, hsz]
    simp [rawInt]
  · rintro i st v nx u h tk oI hi ⟨tc, rfl⟩ hInv ha F' N'
    exact turn _ i st tc nx u h tk oI hnl hi hInv ha F' N'
theorem iter_list {l : Addr} {vs : List Value} {nn : Nat} {Q : Value → Shared → Prop} (F : Fr h₀ L s.heap m) (N : News h₀ L s.heap news) (hl : (l, listOf vs.toArray nn) ∈ news)
    (h : ∀ I h', Fr h₀ L h' m → News h₀ L h' ((I, listIt l 0) :: news) → (∀ p ∈ news, p.1 < I) → Q (.ref I) { s with heap := h' }) : wpAny (model prog w) A (call (.builtin "iter") [.ref l]) Q E s :=
  have hl' : s.heap.IsList l vs.toArray := ⟨_, (N _ hl).1, rfl, nn, rfl⟩
  iter_any (wpAny_pyIter_list hl' (h _ _ (F.push _) (News.push F N _ rfl) fun q hq => Heap.lt_size (N q hq).1))
theorem next_list {I l : Addr} {i : Nat} {vs : List Value} {nn : Nat} {oI : Obj} {v : Value} {Q : Value → Shared → Prop} (F : Fr h₀ L s.heap m) (N : News h₀ L s.heap ((I, oI) :: news)) (hc : oI.cls = .type "list_iterator") (hd : oI.data = .fields #[.ref l, .int i 0]) (hnI : ∀ p ∈ news, p.1 ≠ I) (hl : (l, listOf vs.toArray nn) ∈ news) (hx : vs[i]? = some v)
    (h : ∀ h' oI', oI'.cls = .type "list_iterator" → oI'.data = .fields #[.ref l, .int ((i + 1 : Nat) : Int) 0] → Fr h₀ L h' m → News h₀ L h' ((I, oI') :: news) → Q v { s with heap := h' }) : wpAny (model prog w) A (call (.builtin "next") [.ref I]) Q E s := by
  have hm := N _ (.head _)
  have ho : s.heap.get? I = some oI := hm.1
  have hit : s.heap.IsListIter I l i := ⟨_, ho, hc, hd⟩
  have hol := (N _ (.tail _ hl)).1
  refine call_function_entry (by decide +kernel) (by decide +kernel) kdk_entry_next (kdk_args_next _) ?_
  unfold Builtin.«next»
  refine wpAny_bind (m := someArgs "next" 1 2 _) (wpAny_of_eq (a := [Value.ref I]) (by first | rfl | kernel_rfl!) ?_)
  dsimp only
  refine wpAny_bind (wpAny_specialOf (name := Str.ofString "__next__") hit.typeIs slot_listiter_next.lookup ?_)
  refine wpAny_ite_split (fun hab => absurd hab (by decide)) (fun _ => ?_)
  refine wpAny_bind (wpAny_callSpecial?_slot (name := Str.ofString "__next__") hit.typeIs slot_listiter_next
    (wpAny_call_entry slot_listiter_next hit.typeIs entry_listiter_next ?_ (args_listiter_next _)))
  show wpAny _ _ (field (.ref I) 0 >>= _) _ _ s
  refine wpAny_bind (wpAny_field ho hd (x := .ref l) rfl ?_)
  show wpAny _ _ (if (Value.ref l == Value.none) = true then _ else _) _ _ s
  rw [if_neg (show ¬ ((Value.ref l == Value.none) = true) from Bool.false_ne_true)]
  show wpAny _ _ (field (.ref I) 1 >>= _) _ _ s
  refine wpAny_bind (wpAny_field ho hd (x := .int i 0) rfl ?_)
  show wpAny _ _ (seqItems? (.ref l) >>= _) _ _ s
  refine wpAny_bind (wpAny_seqItems hol rfl ?_)
  have hx' : vs.toArray[i]? = some v := by simpa using hx
  simp only [Int.toNat_natCast, hx']
  refine wpAny_bind (wpAny_setField ho hd (by simp) (wpAny_pure ⟨v, rfl, ?_⟩))
  refine wpAny_pure ⟨_, rfl, ?_⟩
  have hs : Heap.SameBut I s.heap (s.heap.update I (Obj.mapFields (·.setIfInBounds 1 (rawInt ((i : Int) + 1))))) := Heap.SameBut.update ..
  have ho' : (s.heap.update I (Obj.mapFields (·.setIfInBounds 1 (rawInt ((i : Int) + 1))))).get? I = some _ := Heap.get?_update_self _ ho (Obj.isFreed_of_fields (Obj.data_mapFields hd _))
  exact h _ _ ((Obj.cls_mapFields ..).trans hc) (by rw [Obj.data_mapFields hd]; simp [rawInt]) (F.change hs hm.2.1 hm.2.2) (News.setIn (own := []) N (fun _ hq => nomatch hq) hnI hs ho')
theorem walks_shift {I : Addr} {fp wr : List Addr} {n : Nat} {P : Nat → Value → Prop} {St : Nat → Heap → Prop} (W : Walks prog w A I fp wr n P St) (k : Nat) (hk : k ≤ n) :
    Walks prog w A I fp wr (n - k) (fun i v => P (i + k) v) (fun i h => St (i + k) h) where
  sub := W.sub
  frame := fun i h h' => W.frame (i + k) h h'
  item := fun i s Q E hi st hQ => W.item (i + k) s Q E (by omega) st fun v h' tk hP hS hf => hQ v h' tk hP (by rw [show i + 1 + k = i + k + 1 by omega]; exact hS) hf
  done := fun s Q E st hQ => W.done s Q E (by rw [show n = n - k + k by omega]; exact st) hQ
  self := fun i s Q E st hQ => W.self (i + k) s Q E st hQ
theorem loop_listIt {σ : Type} {x : Str} {body : List Stmt} {Q : Flow → Shared → Prop} {I l : Addr} {oI₀ : Obj} {vs : List Value} {nn k : Nat} {m₀ : Str → Option Value} (ps : σ → List (Str × Value)) (stored : List Str) (Inv : Nat → σ → Led → Prop) (c₀ : σ)
    (hh : A.handled = none) (F : Fr h₀ env.locals s.heap m₀) (N : News h₀ env.locals s.heap ((I, oI₀) :: news)) (hc : oI₀.cls = .type "list_iterator") (hd : oI₀.data = .fields #[.ref l, .int (k : Int) 0]) (hkn : k ≤ vs.length) (hnI : ∀ p ∈ news, p.1 ≠ I) (hl : ∀ i c nx, Inv i c nx → (l, listOf vs.toArray nn) ∈ nx) (hk : ∀ p ∈ ps c₀, m₀ p.1 = some p.2) (h0 : Inv 0 c₀ news)
    (turn : ∀ i c v nx (u : Str → Option Value) h tk oI, vs[i + k]? = some v → Inv i c nx → (∀ p ∈ nx, p.1 ≠ I) → Fr h₀ env.locals h (fun y => if y = x then some v else kstB (fun z => if stored.contains z then u z else m₀ z) (ps c) y) → News h₀ env.locals h ((I, oI) :: nx) →
      wpAny (model prog w) A (execs body env) (ITurn h₀ env.locals I oI { s with heap := h, toks := tk } x ps stored m₀ (Inv (i + 1)) Q) E { s with heap := h, toks := tk })
    (done : ∀ c nx (u : Str → Option Value) h tk, Inv (vs.length - k) c nx → (∀ p ∈ nx, p.1 ≠ I) → Fr h₀ env.locals h (fun y => if y = x then u y else kstB (fun z => if stored.contains z then u z else m₀ z) (ps c) y) → News h₀ env.locals h nx → Q .next { s with heap := h, toks := tk }) :
    wpAny (model prog w) A (pyIter (.ref I)) (fun it s₂ => LoopAtV prog w A h₀ env x body Q E it s₂) E s := by
  have hl0 := hl _ _ _ h0
  have hIt : s.heap.IsListIter I l k := ⟨_, (N _ (.head _)).1, hc, hd⟩
  have hL : s.heap.IsList l vs.toArray := ⟨_, (N _ (.tail _ hl0)).1, rfl, nn, rfl⟩
  have W := walks_shift (Walks.list (prog := prog) (w := w) hh I l (hnI _ hl0) vs.toArray) k (by simpa using hkn)
  rw [show vs.toArray.size - k = vs.length - k by simp] at W
  refine wpAny_pyIter_listiter hIt ?_
  refine iloop ps stored Inv c₀ W ?_ ?_ ?_ F N hnI hk h0 (.head _) (fun i h st => let ⟨o, ho, _⟩ := st.1; ⟨o, ho⟩) ?_ done
  · intro hm
    rcases List.mem_cons.mp hm with e | hm
    · exact (N _ (.head _)).2.1 e.symm
    · exact (N _ (.tail _ hl0)).2.1 (List.mem_singleton.mp hm).symm
  · intro a ha
    rcases List.mem_cons.mp ha with e | ha
    · exact .inl e
    · rw [List.mem_singleton.mp ha]; exact .inr (.inr ⟨_, hl⟩)
  · rw [Nat.zero_add]; exact ⟨hIt, hL⟩
  · rintro i c v nx u h tk oI _ hP hi ha F' N'
    exact turn i c v nx u h tk oI (by simpa using hP) hi ha F' N'
/-- a loop over a made list whose turns keep nothing; the ledger is seen through G alone -/
theorem loop_list0 {x : Str} {body : List Stmt} {Q : Flow → Shared → Prop} {l : Addr} {vs : List Value} {nn : Nat} {m₀ : Str → Option Value} {G : Led → Prop} (hG : G news) (stored : List Str)
    (hh : A.handled = none) (F : Fr h₀ env.locals s.heap m₀) (N : News h₀ env.locals s.heap news) (hl : (l, listOf vs.toArray nn) ∈ news)
    (turn : ∀ (nw : Led) (I : Addr) (i : Nat) (v : Value) (u : Str → Option Value) h tk oI, G nw → (∀ p ∈ nw, p.1 < I) → vs[i]? = some v → Fr h₀ env.locals h (fun y => if y = x then some v else if stored.contains y then u y else m₀ y) → News h₀ env.locals h ((I, oI) :: nw) →
      wpAny (model prog w) A (execs body env) (ITurn h₀ env.locals I oI { s with heap := h, toks := tk } x (fun _ : Unit => []) stored m₀ (fun _ nx => nx = nw) Q) E { s with heap := h, toks := tk })
    (done : ∀ (u : Str → Option Value) h tk, Fr h₀ env.locals h (fun y => if y = x then u y else if stored.contains y then u y else m₀ y) → News h₀ env.locals h news → Q .next { s with heap := h, toks := tk }) :
    wpAny (model prog w) A (pyIter (.ref l)) (fun it s₂ => LoopAtV prog w A h₀ env x body Q E it s₂) E s := by
  have hol := (N _ hl).1
  have hL : s.heap.IsList l vs.toArray := ⟨_, hol, rfl, nn, rfl⟩
  have hne : l ≠ s.heap.objs.size := Nat.ne_of_lt (Heap.lt_size hol)
  have hnl : ∀ p ∈ news, p.1 < s.heap.objs.size := fun p hp => Heap.lt_size (N p hp).1
  refine wpAny_pyIter_list hL ?_
  have W := Walks.list (prog := prog) (w := w) hh s.heap.objs.size l hne vs.toArray
  refine iloop (fun _ : Unit => []) stored (fun _ _ nx => nx = news) () W ?_ ?_ ?_ (F.push _) (News.push F N _ rfl) (fun p hp => Nat.ne_of_lt (hnl p hp)) (fun _ h => nomatch h) rfl (.head _) (fun i h st => let ⟨o, ho, _⟩ := st.1; ⟨o, ho⟩) ?_ ?_
  · intro hm
    rcases List.mem_cons.mp hm with e | hm
    · exact absurd F.ns.lt (e ▸ Nat.lt_irrefl _)
    · exact (N _ hl).2.1 (List.mem_singleton.mp hm).symm
  · intro a ha
    rcases List.mem_cons.mp ha with e | ha
    · exact .inl e
    · rw [List.mem_singleton.mp ha]; exact .inr (.inr ⟨listOf vs.toArray nn, fun _ _ nx e => by rw [e]; exact hl⟩)
  · exact ⟨⟨_, Heap.get?_push_size _ rfl, rfl, rfl⟩, hL.at fun o e => Heap.get?_push_of_some _ e⟩
  · rintro i _ v nx u h tk oI _ hP rfl _ F' N'
    exact turn nx _ i v u h tk oI hG hnl (by simpa using hP) F' N'
  · rintro _ nx u h tk rfl _ F' N'
    exact done u h tk F' N'
end
end Mine

namespace Mine
set_option maxRecDepth 100000 in
set_option maxHeartbeats 8000000 in
open_top hd for PySem.Challenge.rw_nq0005_03
end Mine

-- I3
namespace Mine
def wordB (n : Nat) : List UInt8 := if n = 0 then [] else wordB (n / 16) ++ [UInt8.ofNat (65 + n % 16)]
termination_by n
decreasing_by omega
theorem wordB_step {n : Nat} (h : n ≠ 0) : wordB n = wordB (n / 16) ++ [UInt8.ofNat (65 + n % 16)] := by
  rw [wordB]; simp [h]
theorem wordB_zero : wordB 0 = [] := by rw [wordB]; simp
def IInv (n num : Int) (val : Array UInt8) : Prop := 0 ≤ num ∧ wordB n.natAbs = wordB num.toNat ++ val.toList
theorem iinv0 (n : Int) : IInv n (if n < 0 then -n else n) #[] := by
  have h : (if n < 0 then -n else n) = (n.natAbs : Int) := by split <;> omega
  refine ⟨by omega, ?_⟩
  rw [h]; simp
theorem picked_ap (k : Nat) (h : k < 16) : KBy.picked #[65, 66, 67, 68, 69, 70, 71, 72, 73, 74, 75, 76, 77, 78, 79, 80] (some (k : Int)) (some ((k : Int) + 1)) = #[UInt8.ofNat (65 + k)] := by
  have : ∀ k : Fin 16, KBy.picked #[65, 66, 67, 68, 69, 70, 71, 72, 73, 74, 75, 76, 77, 78, 79, 80] (some ((k.1 : Nat) : Int)) (some (((k.1 : Nat) : Int) + 1)) = #[UInt8.ofNat (65 + k.1)] := by decide +kernel
  exact this ⟨k, h⟩
theorem iinv_size {n num : Int} {val : Array UInt8} {c : UInt8} (h : IInv n num val) (hl : (wordB n.natAbs).length ≤ 1000) : #[c].size + val.size ≤ 16777216 := by
  have := congrArg List.length h.2
  simp only [List.length_append, Array.length_toList] at this
  have e : (#[c] : Array UInt8).size = 1 := rfl
  omega
theorem iinv1 {n num : Int} {val : Array UInt8} (h : IInv n num val) (hn : num ≠ 0) : IInv n (num.fdiv 16) (#[UInt8.ofNat (65 + (num.fmod 16).toNat)] ++ val) := by
  obtain ⟨h0, h1⟩ := h
  have e1 : num.fdiv 16 = ((num.toNat / 16 : Nat) : Int) := by rw [Int.fdiv_eq_ediv_of_nonneg _ (by decide)]; omega
  have e2 : (num.fmod 16).toNat = num.toNat % 16 := by rw [Int.fmod_eq_emod_of_nonneg _ (by decide)]; omega
  refine ⟨by omega, ?_⟩
  rw [h1, wordB_step (n := num.toNat) (by omega), e1, e2, Int.toNat_natCast]
  simp
theorem iinv_less {num : Int} (h0 : 0 ≤ num) (hn : num ≠ 0) : (num.fdiv 16).toNat < num.toNat := by
  have e1 : num.fdiv 16 = ((num.toNat / 16 : Nat) : Int) := by rw [Int.fdiv_eq_ediv_of_nonneg _ (by decide)]; omega
  omega
theorem iinv_end {n num : Int} {val : Array UInt8} (h : IInv n num val) (hn : num = 0) : val = (wordB n.natAbs).toArray := by
  obtain ⟨h0, h1⟩ := h
  subst hn
  rw [h1]; simp [wordB_zero]
section
variable {prog : Program} {w : World} {A : Around} {E : Value → Shared → Prop} {s : Shared} {value slice : PySem.Expr} {t : Tok} {h₀ : Heap} {L : Addr} {m : PySem.Str → Option Value} {news : List (Addr × Obj)} {Q : Value → Shared → Prop}
theorem ap_cut {i j : Int} {ti tj : Tok} (hF : Fr h₀ L s.heap m) (hN : News h₀ L s.heap news) (h0 : 0 ≤ i) (h1 : i < 16) (hj : j = i + 1)
    (h : ∀ h' t' k, Fr h₀ L h' m → News h₀ L h' news → Q (.bytes #[UInt8.ofNat (65 + i.toNat)] t') { s with heap := h', toks := k })
    (hs : subscripted slice false (.bytes #[65, 66, 67, 68, 69, 70, 71, 72, 73, 74, 75, 76, 77, 78, 79, 80] t) (.ref s.heap.objs.size) = operate [.ref s.heap.objs.size, .bytes #[65, 66, 67, 68, 69, 70, 71, 72, 73, 74, 75, 76, 77, 78, 79, 80] t] (getItem (.bytes #[65, 66, 67, 68, 69, 70, 71, 72, 73, 74, 75, 76, 77, 78, 79, 80] t) (.ref s.heap.objs.size)) := by with_unfolding_all rfl)
    (ht : ∀ r, letTemporaryGo value (.bytes #[65, 66, 67, 68, 69, 70, 71, 72, 73, 74, 75, 76, 77, 78, 79, 80] t) r = pure () := by intro _; with_unfolding_all rfl) :
    wpAny (model prog w) A (subscriptTail value slice (.bytes #[65, 66, 67, 68, 69, 70, 71, 72, 73, 74, 75, 76, 77, 78, 79, 80] t) (.ref s.heap.objs.size)) Q E { s with heap := s.heap.push { cls := .type "slice", data := .fields #[.int i ti, .int j tj, .none] } } := by
  subst hj
  refine KBc.slice_K hF hN rfl (.int _ _) (.int _ _) (by decide) (fun h' t' k F' N' _ => ?_) hs ht
  have := h h' t' k F' N'
  have e : i = ((i.toNat : Nat) : Int) := by omega
  rw [e, picked_ap i.toNat (by omega)]
  exact this
end
set_option maxRecDepth 100000 in
set_option maxHeartbeats 8000000 in
theorem int2ap {w : World} {p : Program} {loose : List Str} {mean : ExcName → Option Value} {mg mb : Str → Option Value} (news : List (Addr × Obj)) (n : Int) (t : Tok) :
  CbClaim Challenge.rw_nq0005_03.row.prog w (hd.heap_39 w.params) p loose mean mg mb 30 news [] ((wordB n.natAbs).length ≤ 1000) [.int n t] (fun t => .bytes (wordB n.natAbs).toArray t) := by
  k_fill
  dsimp only [CbClaim, CbLists, CbRet]
  intro dp un gd cn cs a ccd cl outer A₀ base h₀ L m s Q E B F X N T hk hlen hd' hu hret
  refine wpAny_call ?_
  k_dflt cell_enter
  k_with_none
  k_with "state" => exact iinv0 _
  k_with "state" => exact iinv1 (by assumption) (by assumption)
  k_with "measure" => exact iinv_less (And.left (by assumption : IInv _ _ _)) (by assumption)
  k_with "binaryOp Add bytes bytes" => (k_here; refine KBy.add_bytes (iinv_size (by assumption) hlen) ?_; intro t' k')
  k_with "exec While Name cons nil" => k_while (fun _ num val => IInv n num val) (fun _ num _ => num.toNat) "num" "val"
  k_with "subscriptTail Name" => (
    k_here; (with_reducible rename Fr _ _ _ _ => F'); (with_reducible rename News _ _ _ _ => N');
    refine ap_cut (s := ⟨_, _, _, _, _⟩) F' N' ?h0 ?h1 rfl ?_
    case h0 => exact Int.fmod_nonneg_of_pos _ (by decide)
    case h1 => exact Int.fmod_lt_of_pos _ (by decide)
    intro h' t' k' F' N')
  k_steps
  have e := iinv_end (by assumption) (by assumption)
  rw [e]
  exact hret _ _ _ (by k_asm) (by k_asm)
end Mine

-- V3
namespace Mine
/-- the double of an element of the field -/
def xt (v : Nat) : Nat := if 7 < v then (2 * v) ^^^ 19 else 2 * v
/-- v times the k-th power of 2 -/
def mg2 : Nat → Nat → Nat
  | 0, v => v
  | k + 1, v => xt (mg2 k v)
/-- the power of 2 that an element is -/
def lg : Nat → Nat
  | 1 => 0 | 2 => 1 | 3 => 4 | 4 => 2 | 5 => 8 | 6 => 5 | 7 => 10 | 8 => 3 | 9 => 14 | 10 => 9 | 11 => 7 | 12 => 6 | 13 => 13 | 14 => 11 | 15 => 12 | _ => 0
def gm (a b : Nat) : Nat := if 0 < a then mg2 (lg a) b else 0
theorem xt_lt {v : Nat} (hv : v < 16) : xt v < 16 := by
  have : ∀ v : Fin 16, xt v.1 < 16 := by decide +kernel
  exact this ⟨v, hv⟩
theorem xt_xor {a b : Nat} (ha : a < 16) (hb : b < 16) : xt (a ^^^ b) = xt a ^^^ xt b := by
  have : ∀ a b : Fin 16, xt (a.1 ^^^ b.1) = xt a.1 ^^^ xt b.1 := by decide +kernel
  exact this ⟨a, ha⟩ ⟨b, hb⟩
theorem mg2_low {v : Nat} (hv : v < 16) : ∀ k, mg2 k v < 16
  | 0 => hv
  | k + 1 => xt_lt (mg2_low hv k)
theorem mg2_lt {k v : Nat} (_ : k < 15) (hv : v < 16) : mg2 k v < 16 := mg2_low hv k
theorem mg2_xor {k a b : Nat} (_ : k < 15) (ha : a < 16) (hb : b < 16) : mg2 k (a ^^^ b) = mg2 k a ^^^ mg2 k b := by
  induction k with
  | zero => rfl
  | succ k ih =>
    show xt (mg2 k (a ^^^ b)) = xt (mg2 k a) ^^^ xt (mg2 k b)
    rw [ih (by omega), xt_xor (mg2_low ha k) (mg2_low hb k)]
theorem mg2_none : ∀ k, mg2 k 0 = 0
  | 0 => rfl
  | k + 1 => by show xt (mg2 k 0) = 0; rw [mg2_none k]; rfl
theorem mg2_xt (v : Nat) : ∀ k, mg2 k (xt v) = xt (mg2 k v)
  | 0 => rfl
  | k + 1 => by show xt (mg2 k (xt v)) = xt (xt (mg2 k v)); rw [mg2_xt v k]
theorem mg2_add (b v : Nat) : ∀ a, mg2 a (mg2 b v) = mg2 (a + b) v
  | 0 => by rw [Nat.zero_add]; rfl
  | a + 1 => by rw [Nat.add_right_comm]; show xt (mg2 a (mg2 b v)) = xt (mg2 (a + b) v); rw [mg2_add b v a]
theorem mg2_15 {v : Nat} (hv : v < 16) : mg2 15 v = v := by
  have : ∀ v : Fin 16, mg2 15 v.1 = v.1 := by decide +kernel
  exact this ⟨v, hv⟩
theorem mg2_mod {v : Nat} (hv : v < 16) (n : Nat) : mg2 n v = mg2 (n % 15) v := by
  induction n using Nat.strongRecOn with
  | ind n ih =>
    by_cases h : n < 15
    · rw [Nat.mod_eq_of_lt h]
    · have e : mg2 n v = mg2 (n - 15) v := by
        have := mg2_add 15 v (n - 15)
        rw [mg2_15 hv, show n - 15 + 15 = n by omega] at this
        exact this.symm
      rw [e, ih (n - 15) (by omega), show (n - 15) % 15 = n % 15 by omega]
theorem lg_lt (a : Nat) : lg a < 15 := by
  unfold lg; split <;> decide
theorem gm_lt {a b : Nat} (hb : b < 16) : gm a b < 16 := by
  unfold gm; split
  · exact mg2_lt (lg_lt a) hb
  · decide
theorem gm_comm {a b : Nat} (ha : a < 16) (hb : b < 16) : gm a b = gm b a := by
  have : ∀ a b : Fin 16, gm a.1 b.1 = gm b.1 a.1 := by decide +kernel
  exact this ⟨a, ha⟩ ⟨b, hb⟩
theorem gm_mr (a b k : Nat) : gm a (mg2 k b) = mg2 k (gm a b) := by
  unfold gm
  split
  · rw [mg2_add, mg2_add, Nat.add_comm]
  · rw [mg2_none]
theorem gm_ml {a b : Nat} (ha : a < 16) (hb : b < 16) (k : Nat) : gm (mg2 k a) b = mg2 k (gm a b) := by
  rw [gm_comm (mg2_low ha k) hb, gm_mr, gm_comm hb ha]
theorem gm_0l (b : Nat) : gm 0 b = 0 := rfl
theorem gm_0r (a : Nat) : gm a 0 = 0 := by
  unfold gm
  split
  · exact mg2_none _
  · rfl
theorem gm_xr {a b b' : Nat} (_ : a < 16) (hb : b < 16) (hb' : b' < 16) : gm a (b ^^^ b') = gm a b ^^^ gm a b' := by
  unfold gm
  split
  · exact mg2_xor (lg_lt a) hb hb'
  · rfl
theorem xlt {a b : Nat} (ha : a < 16) (hb : b < 16) : a ^^^ b < 16 := Nat.xor_lt_two_pow (n := 4) ha hb
theorem gm_xl {a a' b : Nat} (ha : a < 16) (ha' : a' < 16) (hb : b < 16) : gm (a ^^^ a') b = gm a b ^^^ gm a' b := by
  rw [gm_comm (xlt ha ha') hb, gm_xr hb ha ha', gm_comm hb ha, gm_comm hb ha']
/-- five elements -/
structure V where
  a : Nat
  b : Nat
  c : Nat
  d : Nat
  e : Nat
def V.l (v : V) : List Nat := [v.a, v.b, v.c, v.d, v.e]
theorem V.of_l {v w : V} (h : v.l = w.l) : v = w := by
  cases v; cases w; simpa [V.l] using h
def V.ok (v : V) : Prop := v.a < 16 ∧ v.b < 16 ∧ v.c < 16 ∧ v.d < 16 ∧ v.e < 16
def V.x (v w : V) : V := ⟨v.a ^^^ w.a, v.b ^^^ w.b, v.c ^^^ w.c, v.d ^^^ w.d, v.e ^^^ w.e⟩
theorem V.ok_x {v w : V} (h : v.ok) (h' : w.ok) : (v.x w).ok := ⟨xlt h.1 h'.1, xlt h.2.1 h'.2.1, xlt h.2.2.1 h'.2.2.1, xlt h.2.2.2.1 h'.2.2.2.1, xlt h.2.2.2.2 h'.2.2.2.2⟩
/-- the word read as a polynomial, at the k-th letter: a the last letter -/
def ev (k : Nat) (v : V) : Nat := mg2 k (mg2 k (mg2 k (mg2 k v.e ^^^ v.d) ^^^ v.c) ^^^ v.b) ^^^ v.a
theorem ev_lt {k : Nat} {v : V} (hk : k < 15) (h : v.ok) : ev k v < 16 := by
  obtain ⟨h1, h2, h3, h4, h5⟩ := h
  exact xlt (mg2_lt hk (xlt (mg2_lt hk (xlt (mg2_lt hk (xlt (mg2_lt hk h5) h4)) h3)) h2)) h1
theorem x4 (p q r s : Nat) : (p ^^^ q) ^^^ (r ^^^ s) = (p ^^^ r) ^^^ (q ^^^ s) := by
  rw [Nat.xor_assoc, Nat.xor_assoc, ← Nat.xor_assoc q r s, Nat.xor_comm q r, Nat.xor_assoc r q s]
theorem ev_x {k : Nat} {v w : V} (hk : k < 15) (h : v.ok) (h' : w.ok) : ev k (v.x w) = ev k v ^^^ ev k w := by
  obtain ⟨h1, h2, h3, h4, h5⟩ := h
  obtain ⟨g1, g2, g3, g4, g5⟩ := h'
  have e5 := mg2_lt hk h5
  have f5 := mg2_lt hk g5
  have e4 := mg2_lt hk (xlt e5 h4)
  have f4 := mg2_lt hk (xlt f5 g4)
  have e3 := mg2_lt hk (xlt e4 h3)
  have f3 := mg2_lt hk (xlt f4 g3)
  unfold ev V.x
  dsimp only
  rw [mg2_xor hk h5 g5, x4, mg2_xor hk (xlt e5 h4) (xlt f5 g4), x4, mg2_xor hk (xlt e4 h3) (xlt f4 g3), x4, mg2_xor hk (xlt e3 h2) (xlt f3 g2), x4]
def F (v : V) : V := ⟨ev 0 v, ev 3 v, ev 6 v, ev 9 v, ev 12 v⟩
theorem F_ok {v : V} (h : v.ok) : (F v).ok := ⟨ev_lt (by decide) h, ev_lt (by decide) h, ev_lt (by decide) h, ev_lt (by decide) h, ev_lt (by decide) h⟩
theorem F_x {v w : V} (h : v.ok) (h' : w.ok) : F (v.x w) = (F v).x (F w) := by
  unfold F V.x
  simp only [← V.x.eq_1]
  rw [ev_x (by decide) h h', ev_x (by decide) h h', ev_x (by decide) h h', ev_x (by decide) h h', ev_x (by decide) h h']
def rev (v : V) : V := ⟨v.a, v.e, v.d, v.c, v.b⟩
def at1 (i x : Nat) : V := ⟨if i = 0 then x else 0, if i = 1 then x else 0, if i = 2 then x else 0, if i = 3 then x else 0, if i = 4 then x else 0⟩
theorem at1_ok {i x : Nat} (h : x < 16) : (at1 i x).ok := by
  refine ⟨?_, ?_, ?_, ?_, ?_⟩ <;> (unfold at1; dsimp only; split <;> omega)
theorem parts (v : V) : v = (((at1 0 v.a).x (at1 1 v.b)).x (at1 2 v.c)).x ((at1 3 v.d).x (at1 4 v.e)) := by
  cases v; simp [at1, V.x]
theorem rev_x (v w : V) : rev (v.x w) = (rev v).x (rev w) := rfl
/-- the product round a ring of five -/
def ring (v w : V) : V :=
  ⟨gm v.a w.a ^^^ gm v.b w.e ^^^ gm v.c w.d ^^^ gm v.d w.c ^^^ gm v.e w.b,
   gm v.a w.b ^^^ gm v.b w.a ^^^ gm v.c w.e ^^^ gm v.d w.d ^^^ gm v.e w.c,
   gm v.a w.c ^^^ gm v.b w.b ^^^ gm v.c w.a ^^^ gm v.d w.e ^^^ gm v.e w.d,
   gm v.a w.d ^^^ gm v.b w.c ^^^ gm v.c w.b ^^^ gm v.d w.a ^^^ gm v.e w.e,
   gm v.a w.e ^^^ gm v.b w.d ^^^ gm v.c w.c ^^^ gm v.d w.b ^^^ gm v.e w.a⟩
def dot (v w : V) : V := ⟨gm v.a w.a, gm v.b w.b, gm v.c w.c, gm v.d w.d, gm v.e w.e⟩
theorem x10 (a b c d e a' b' c' d' e' : Nat) : (a ^^^ a') ^^^ (b ^^^ b') ^^^ (c ^^^ c') ^^^ (d ^^^ d') ^^^ (e ^^^ e') = (a ^^^ b ^^^ c ^^^ d ^^^ e) ^^^ (a' ^^^ b' ^^^ c' ^^^ d' ^^^ e') := by
  rw [x4 a a' b b', x4 (a ^^^ b) (a' ^^^ b') c c', x4 _ _ d d', x4 _ _ e e']
theorem ring_ok {v w : V} (h : w.ok) : (ring v w).ok := by
  obtain ⟨h1, h2, h3, h4, h5⟩ := h
  refine ⟨?_, ?_, ?_, ?_, ?_⟩ <;> exact xlt (xlt (xlt (xlt (gm_lt (by assumption)) (gm_lt (by assumption))) (gm_lt (by assumption))) (gm_lt (by assumption))) (gm_lt (by assumption))
theorem ring_xl {v v' w : V} (h : v.ok) (h' : v'.ok) (g : w.ok) : ring (v.x v') w = (ring v w).x (ring v' w) := by
  obtain ⟨h1, h2, h3, h4, h5⟩ := h
  obtain ⟨k1, k2, k3, k4, k5⟩ := h'
  obtain ⟨g1, g2, g3, g4, g5⟩ := g
  unfold ring V.x
  simp only [gm_xl h1 k1 g1, gm_xl h1 k1 g2, gm_xl h1 k1 g3, gm_xl h1 k1 g4, gm_xl h1 k1 g5, gm_xl h2 k2 g1, gm_xl h2 k2 g2, gm_xl h2 k2 g3, gm_xl h2 k2 g4, gm_xl h2 k2 g5, gm_xl h3 k3 g1, gm_xl h3 k3 g2, gm_xl h3 k3 g3, gm_xl h3 k3 g4, gm_xl h3 k3 g5,
    gm_xl h4 k4 g1, gm_xl h4 k4 g2, gm_xl h4 k4 g3, gm_xl h4 k4 g4, gm_xl h4 k4 g5, gm_xl h5 k5 g1, gm_xl h5 k5 g2, gm_xl h5 k5 g3, gm_xl h5 k5 g4, gm_xl h5 k5 g5, x10]
theorem ring_xr {v w w' : V} (h : v.ok) (g : w.ok) (g' : w'.ok) : ring v (w.x w') = (ring v w).x (ring v w') := by
  obtain ⟨h1, h2, h3, h4, h5⟩ := h
  obtain ⟨g1, g2, g3, g4, g5⟩ := g
  obtain ⟨k1, k2, k3, k4, k5⟩ := g'
  unfold ring V.x
  simp only [gm_xr h1 g1 k1, gm_xr h1 g2 k2, gm_xr h1 g3 k3, gm_xr h1 g4 k4, gm_xr h1 g5 k5, gm_xr h2 g1 k1, gm_xr h2 g2 k2, gm_xr h2 g3 k3, gm_xr h2 g4 k4, gm_xr h2 g5 k5, gm_xr h3 g1 k1, gm_xr h3 g2 k2, gm_xr h3 g3 k3, gm_xr h3 g4 k4, gm_xr h3 g5 k5,
    gm_xr h4 g1 k1, gm_xr h4 g2 k2, gm_xr h4 g3 k3, gm_xr h4 g4 k4, gm_xr h4 g5 k5, gm_xr h5 g1 k1, gm_xr h5 g2 k2, gm_xr h5 g3 k3, gm_xr h5 g4 k4, gm_xr h5 g5 k5, x10]
theorem dot_xl {v v' w : V} (h : v.ok) (h' : v'.ok) (g : w.ok) : dot (v.x v') w = (dot v w).x (dot v' w) := by
  obtain ⟨h1, h2, h3, h4, h5⟩ := h
  obtain ⟨k1, k2, k3, k4, k5⟩ := h'
  obtain ⟨g1, g2, g3, g4, g5⟩ := g
  unfold dot V.x
  simp only [gm_xl h1 k1 g1, gm_xl h2 k2 g2, gm_xl h3 k3 g3, gm_xl h4 k4 g4, gm_xl h5 k5 g5]
theorem dot_xr {v w w' : V} (h : v.ok) (g : w.ok) (g' : w'.ok) : dot v (w.x w') = (dot v w).x (dot v w') := by
  obtain ⟨h1, h2, h3, h4, h5⟩ := h
  obtain ⟨g1, g2, g3, g4, g5⟩ := g
  obtain ⟨k1, k2, k3, k4, k5⟩ := g'
  unfold dot V.x
  simp only [gm_xr h1 g1 k1, gm_xr h2 g2 k2, gm_xr h3 g3 k3, gm_xr h4 g4 k4, gm_xr h5 g5 k5]
def bs : Nat → Nat
  | 0 => 0 | 1 => 1 | 2 => 2 | 3 => 4 | _ => 8
theorem ev_at {k i z : Nat} (hi : i < 5) : ev k (at1 i z) = mg2 (i * k) z := by
  have h : i = 0 ∨ i = 1 ∨ i = 2 ∨ i = 3 ∨ i = 4 := by omega
  rcases h with rfl | rfl | rfl | rfl | rfl
  · simp [ev, at1, mg2_none, mg2]
  · simp [ev, at1, mg2_none]
  · simp [ev, at1, mg2_none, mg2_add]; congr 1; omega
  · simp [ev, at1, mg2_none, mg2_add]; congr 1; omega
  · simp [ev, at1, mg2_none, mg2_add]; congr 1; omega
theorem ring_at {i j x y : Nat} (hi : i < 5) (hj : j < 5) : ring (at1 i x) (at1 j y) = at1 ((i + j) % 5) (gm x y) := by
  have h : i = 0 ∨ i = 1 ∨ i = 2 ∨ i = 3 ∨ i = 4 := by omega
  have g : j = 0 ∨ j = 1 ∨ j = 2 ∨ j = 3 ∨ j = 4 := by omega
  rcases h with rfl | rfl | rfl | rfl | rfl <;> rcases g with rfl | rfl | rfl | rfl | rfl <;> simp [ring, at1, gm_0l, gm_0r]
theorem place {i j x y k e : Nat} (hx : x < 16) (hy : y < 16) (he : (e * k) % 15 = (i * k + j * k) % 15) : mg2 (e * k) (gm x y) = gm (mg2 (i * k) x) (mg2 (j * k) y) := by
  rw [gm_ml hx (mg2_low hy _), gm_mr, mg2_add, mg2_mod (gm_lt hy) (e * k), he, ← mg2_mod (gm_lt hy)]
theorem conv_at {i j x y : Nat} (hi : i < 5) (hj : j < 5) (hx : x < 16) (hy : y < 16) : F (ring (at1 i x) (at1 j y)) = dot (F (at1 i x)) (F (at1 j y)) := by
  rw [ring_at hi hj]
  have hm : (i + j) % 5 < 5 := Nat.mod_lt _ (by decide)
  unfold F dot
  simp only [ev_at hi, ev_at hj, ev_at hm]
  rw [place hx hy (i := i) (j := j) (k := 0) (by omega), place hx hy (i := i) (j := j) (k := 3) (by omega), place hx hy (i := i) (j := j) (k := 6) (by omega), place hx hy (i := i) (j := j) (k := 9) (by omega), place hx hy (i := i) (j := j) (k := 12) (by omega)]
/-- the image of the product is the product of the images -/
def Cv (v w : V) : Prop := F (ring v w) = dot (F v) (F w)
theorem cv_l {v v' w : V} (h : v.ok) (h' : v'.ok) (g : w.ok) (e : Cv v w) (e' : Cv v' w) : Cv (v.x v') w := by
  unfold Cv at *
  rw [ring_xl h h' g, F_x (ring_ok g) (ring_ok g), e, e', F_x h h', dot_xl (F_ok h) (F_ok h') (F_ok g)]
theorem cv_r {v w w' : V} (h : v.ok) (g : w.ok) (g' : w'.ok) (e : Cv v w) (e' : Cv v w') : Cv v (w.x w') := by
  unfold Cv at *
  rw [ring_xr h g g', F_x (ring_ok g) (ring_ok g'), e, e', F_x g g', dot_xr (F_ok h) (F_ok g) (F_ok g')]
/-- what is closed under adding and holds of the five times four single bits holds of all -/
theorem span {P : V → Prop} (h0 : ∀ i : Fin 5, ∀ p : Fin 5, P (at1 i.1 (bs p.1))) (hx : ∀ v w : V, v.ok → w.ok → P v → P w → P (v.x w)) {v : V} (hv : v.ok) : P v := by
  have one : ∀ (i : Fin 5) (x : Fin 16), P (at1 i.1 x.1) := by
    intro i x
    have e : at1 i.1 x.1 = ((at1 i.1 (bs (x.1 % 2))).x (at1 i.1 (bs (x.1 / 2 % 2 * 2)))).x ((at1 i.1 (bs (x.1 / 4 % 2 * 3))).x (at1 i.1 (bs (x.1 / 8 % 2 * 4)))) := by
      have : ∀ (i : Fin 5) (x : Fin 16), (at1 i.1 x.1).l = (((at1 i.1 (bs (x.1 % 2))).x (at1 i.1 (bs (x.1 / 2 % 2 * 2)))).x ((at1 i.1 (bs (x.1 / 4 % 2 * 3))).x (at1 i.1 (bs (x.1 / 8 % 2 * 4))))).l := by decide +kernel
      exact V.of_l (this i x)
    have bl : ∀ p, bs p < 16 := fun p => by unfold bs; split <;> decide
    rw [e]
    refine hx _ _ (V.ok_x (at1_ok (bl _)) (at1_ok (bl _))) (V.ok_x (at1_ok (bl _)) (at1_ok (bl _))) (hx _ _ (at1_ok (bl _)) (at1_ok (bl _)) ?_ ?_) (hx _ _ (at1_ok (bl _)) (at1_ok (bl _)) ?_ ?_)
    · exact h0 i ⟨x.1 % 2, by omega⟩
    · exact h0 i ⟨x.1 / 2 % 2 * 2, by omega⟩
    · exact h0 i ⟨x.1 / 4 % 2 * 3, by omega⟩
    · exact h0 i ⟨x.1 / 8 % 2 * 4, by omega⟩
  obtain ⟨h1, h2, h3, h4, h5⟩ := hv
  have o1 := at1_ok (i := 0) h1
  have o2 := at1_ok (i := 1) h2
  have o3 := at1_ok (i := 2) h3
  have o4 := at1_ok (i := 3) h4
  have o5 := at1_ok (i := 4) h5
  rw [parts v]
  exact hx _ _ (V.ok_x (V.ok_x o1 o2) o3) (V.ok_x o4 o5) (hx _ _ (V.ok_x o1 o2) o3 (hx _ _ o1 o2 (one 0 ⟨v.a, h1⟩) (one 1 ⟨v.b, h2⟩)) (one 2 ⟨v.c, h3⟩)) (hx _ _ o4 o5 (one 3 ⟨v.d, h4⟩) (one 4 ⟨v.e, h5⟩))
theorem FF_at : ∀ i p : Fin 5, (F (F (at1 i.1 (bs p.1)))).l = (rev (at1 i.1 (bs p.1))).l := by decide +kernel
/-- twice the image -/
theorem FF {v : V} (h : v.ok) : F (F v) = rev v :=
  span (P := fun v => F (F v) = rev v) (fun i p => V.of_l (FF_at i p)) (fun v w hv hw e e' => by rw [F_x hv hw, F_x (F_ok hv) (F_ok hw), e, e']; rfl) h
theorem conv {v w : V} (hv : v.ok) (hw : w.ok) : F (ring v w) = dot (F v) (F w) := by
  have bl : ∀ p, bs p < 16 := fun p => by unfold bs; split <;> decide
  have h1 : ∀ (i p : Fin 5) {w : V}, w.ok → Cv (at1 i.1 (bs p.1)) w := fun i p {w} hw => by
    refine span (P := fun w => Cv (at1 i.1 (bs p.1)) w) (fun j q => conv_at i.2 j.2 (bl _) (bl _)) (fun a b ha hb e e' => cv_r (at1_ok (bl _)) ha hb e e') hw
  exact span (P := fun v => Cv v w) (fun i p => h1 i p hw) (fun a b ha hb e e' => cv_l ha hb hw e e') hv
def num (v : V) : Nat := v.a + 16 * v.b + 256 * v.c + 4096 * v.d + 65536 * v.e
end Mine

-- En
namespace Mine
/-- every entry lies below -/
def Low (L : Addr) (news : Led) : Prop := ∀ p ∈ news, p.1 < L
theorem Low.of {L : Addr} {news : Led} (h : ∀ p ∈ news, p.1 < L) : Low L news := h
end Mine

-- Lm
namespace Mine
open PySem.Calls PySem.Spec
/-- the table of a def that makes one lambda: empty, or holding that lambda's code -/
def LamTab (pos : Pos) (qual : Str) (T : Obj) (rest : Led) : Prop :=
  T = tabObj #[] ∨ ∃ c' oc vs t, T = tabObj #[rawInt pos.line, rawInt pos.col, .ref c'] ∧ (c', oc) ∈ rest ∧ oc.data = .fields vs ∧ vs[1]? = some (.str qual t)
theorem LamTab.mono {pos : Pos} {qual : Str} {T : Obj} {rest rest' : Led} (h : LamTab pos qual T rest) (hs : ∀ p ∈ rest, p ∈ rest') : LamTab pos qual T rest' := by
  rcases h with h | ⟨c', oc, vs, t, h1, h2, h3, h4⟩
  · exact .inl h
  · exact .inr ⟨c', oc, vs, t, h1, hs _ h2, h3, h4⟩
section
variable {M : Model} {A : Around} {E : Value → Shared → Prop} {s : Shared} {h₀ : Heap} {L a c P : Addr} {m mg mb : Str → Option Value} {cn : Str} {cs : Scope} {ccd : Value} {cl : List (Str × Addr)} {rest : Led}
  {p : Program} {loose : List Str} {mean : ExcName → Option Value} {params : Arguments} {body : PySem.Expr} {scope : Scope} {pos : Pos} {clos : List (Str × Addr)} {T : Obj} {rest₀ : Led}
theorem lam_any {Q : Value → Shared → Prop} (F : Fr h₀ L s.heap m) (N : News h₀ L s.heap ((P, T) :: rest)) (Tp : Top p loose mean mg mb h₀) (C : CodeHd h₀ c P) (hcd : ccd = .ref c) (hP : ∀ q ∈ rest, q.1 ≠ P)
    (hs : ∀ p ∈ rest₀, p ∈ rest) (hT : LamTab pos ((envX cn cs L a ccd cl).qual ++ "<lambda>") T rest₀) (hdef : defaultsOf params (envX cn cs L a ccd cl) = ([], [])) (hcl : closureFor scope (envX cn cs L a ccd cl) = pure clos)
    (h : ∀ f c' oc vs t ctv T' extra h' tk, Fr h₀ L h' m →
      News h₀ L h' ((f, kla_obj "<lambda>" ((envX cn cs L a ccd cl).qual ++ "<lambda>") params body scope clos ((mg "__name__").getD .none) c' ctv) :: (P, T') :: (extra ++ rest)) →
      (∀ x ∈ extra, ∀ q ∈ (P, T) :: rest, q.1 < x.1) → P < f → (∀ q ∈ extra ++ rest, q.1 < f) → LamTab pos ((envX cn cs L a ccd cl).qual ++ "<lambda>") T' (extra ++ rest₀) → (c', oc) ∈ extra ++ rest₀ → oc.data = .fields vs → vs[1]? = some (.str ((envX cn cs L a ccd cl).qual ++ "<lambda>") t) → Q (.ref f) { s with heap := h', toks := tk }) :
    wpAny M A (eval (.Lambda params body scope pos) (envX cn cs L a ccd cl)) Q E s := by
  refine kla_eval hdef ?_
  rcases hT with rfl | ⟨c', oc, vs, t, rfl, h2, h3, h4⟩
  · refine kla_nest F N Tp C hcd (.head hP) trivial rfl hcl fun f c' oc vs t ctv h' tk F' N' d1 d2 l1 l2 => ?_
    have hPc : P < c' := l1 _ (.head _)
    refine h f c' oc vs t ctv _ [(c', oc)] h' tk F' (News.sub N' fun q hq => ?_) (fun x hx q hq => ?_) (Nat.lt_trans hPc l2) (fun q hq => ?_) (.inr ⟨c', oc, vs, t, rfl, .head _, d1, d2⟩) (.head _) d1 d2
    · rcases List.mem_cons.mp hq with rfl | hq
      · exact .head _
      · rcases List.mem_cons.mp hq with rfl | hq
        · exact .tail _ (.tail _ (.head _))
        · rcases List.mem_cons.mp hq with rfl | hq
          · exact .tail _ (.head _)
          · exact .tail _ (.tail _ (.tail _ hq))
    · rw [List.mem_singleton.mp hx]; exact l1 q hq
    · rcases List.mem_cons.mp hq with rfl | hq
      · exact l2
      · exact Nat.lt_trans (l1 q (.tail _ hq)) l2
  · refine kla_hit F N Tp C hcd (.head _) (by simp [TriplesOk, rawInt]) (c' := c') (by simp [codeAmong, rawInt]) hcl fun f ctv h' tk F' N' l1 => ?_
    exact h f c' oc vs t ctv _ [] h' tk F' N' (fun _ hx => nomatch hx) (l1 _ (.head _)) (fun q hq => l1 q (.tail _ hq)) (.inr ⟨c', oc, vs, t, rfl, h2, h3, h4⟩) h2 h3 h4
end
abbrev rangeO (a b c : Int) (t u v : Tok) : Obj := { cls := .type "range", dict := none, data := .fields #[.int a t, .int b u, .int c v], slots := #[] }
section
variable {prog : Program} {w : World} {A : Around} {E : Value → Shared → Prop} {s : Shared} {env : Env} {h₀ : Heap} {L : Addr} {m : Str → Option Value} {news : Led}
theorem iter_range {r : Addr} {a b c : Int} {t u v : Tok} {Q : Value → Shared → Prop} (F : Fr h₀ L s.heap m) (N : News h₀ L s.heap news) (hr : IsRange s.heap r a b c t u v) (hsmall : Builtin.Range.small a b c = true)
    (h : ∀ I h', Fr h₀ L h' m → News h₀ L h' ((I, { cls := .type "range_iterator", data := .fields #[rawInt a, rawInt (Builtin.Range.rangeSize a b c), rawInt c] }) :: news) → (∀ p ∈ news, p.1 < I) → Q (.ref I) { s with heap := h' }) : wpAny (model prog w) A (call (.builtin "iter") [.ref r]) Q E s :=
  iter_any (wpAny_pyIter_range hr hsmall (h _ _ (F.push _) (News.push F N _ rfl) fun q hq => Heap.lt_size (N q hq).1))
theorem range_led {a b : Int} {t u : Tok} {Q : Value → Shared → Prop} (F : Fr h₀ L s.heap m) (N : News h₀ L s.heap news)
    (h : ∀ r h' tk t₁ u₁ v₁, Fr h₀ L h' m → News h₀ L h' ((r, rangeO a b 1 t₁ u₁ v₁) :: news) → (∀ p ∈ news, p.1 < r) → Q (.ref r) { s with heap := h', toks := tk }) :
    wpAny (model prog w) A (call (.type "range") [.int a t, .int b u]) Q E s :=
  call_range_2 (h _ _ _ _ _ _ (F.push _) (News.push F N _ rfl) fun q hq => Heap.lt_size (N q hq).1)
theorem loop_rangeIt {σ : Type} {x : Str} {body : List Stmt} {Q : Flow → Shared → Prop} {I : Addr} {a b c : Int} {n : Nat} {m₀ : Str → Option Value} (ps : σ → List (Str × Value)) (stored : List Str) (Inv : Nat → σ → Led → Prop) (c₀ : σ)
    (hh : A.handled = none) (hsz : Builtin.Range.rangeSize a b c = (n : Int)) (F : Fr h₀ env.locals s.heap m₀) (N : News h₀ env.locals s.heap ((I, { cls := .type "range_iterator", data := .fields #[rawInt a, rawInt (Builtin.Range.rangeSize a b c), rawInt c] }) :: news)) (hnI : ∀ p ∈ news, p.1 ≠ I) (hk : ∀ p ∈ ps c₀, m₀ p.1 = some p.2) (h0 : Inv 0 c₀ news)
    (turn : ∀ i st (tc : Tok) nx (u : Str → Option Value) h tk oI, i < n → Inv i st nx → (∀ p ∈ nx, p.1 ≠ I) → Fr h₀ env.locals h (fun y => if y = x then some (.int (a + i * c) tc) else kstB (fun z => if stored.contains z then u z else m₀ z) (ps st) y) → News h₀ env.locals h ((I, oI) :: nx) →
      wpAny (model prog w) A (execs body env) (ITurn h₀ env.locals I oI { s with heap := h, toks := tk } x ps stored m₀ (Inv (i + 1)) Q) E { s with heap := h, toks := tk })
    (done : ∀ st nx (u : Str → Option Value) h tk, Inv n st nx → (∀ p ∈ nx, p.1 ≠ I) → Fr h₀ env.locals h (fun y => if y = x then u y else kstB (fun z => if stored.contains z then u z else m₀ z) (ps st) y) → News h₀ env.locals h nx → Q .next { s with heap := h, toks := tk }) :
    wpAny (model prog w) A (pyIter (.ref I)) (fun it s₂ => LoopAtV prog w A h₀ env x body Q E it s₂) E s := by
  have hit : IsRangeIter s.heap I (a + ((0 : Nat) : Int) * c) ((n : Int) - ((0 : Nat) : Int)) c := by
    have := (N _ (.head _)).1
    rw [hsz] at this
    rw [show a + ((0 : Nat) : Int) * c = a by simp, show (n : Int) - ((0 : Nat) : Int) = n by simp]
    exact this
  refine wpAny_pyIter_rangeiter hit ?_
  refine iloop ps stored Inv c₀ (Walks.range (prog := prog) (w := w) hh I a c n) ?_ (fun a ha => .inl (List.mem_singleton.mp ha)) hit F N hnI hk h0 (List.mem_singleton.mpr rfl) (fun i h st => ⟨_, st⟩) ?_ done
  · intro hm; exact (N _ (.head _)).2.1 (List.mem_singleton.mp hm).symm
  · rintro i st v nx u h tk oI hi ⟨tc, rfl⟩ hInv ha F' N'
    exact turn i st tc nx u h tk oI hi hInv ha F' N'
end
end Mine

-- G3
namespace Mine
open PySem.Calls PySem.Spec
/-- the rows of multiples lie at R -/
def RowsAt (R : Addr) (n : Nat) (nw : Led) : Prop := ∃ (vs : List Value) (nn : Nat), (R, listOf vs.toArray nn) ∈ nw ∧ vs.length = n ∧ ∀ k, k < n → ∃ (q : Addr) (us : List Value) (mm : Nat), vs[k]? = some (.ref q) ∧ (q, listOf us.toArray mm) ∈ nw ∧ IntsAre us ((List.range 16).map fun v => ((mg2 k v : Nat) : Int))
theorem RowsAt.mono {R : Addr} {n : Nat} {nw nw' : Led} (h : RowsAt R n nw) (hs : ∀ p ∈ nw, p ∈ nw') : RowsAt R n nw' := by
  obtain ⟨vs, nn, h1, h2, h3⟩ := h
  exact ⟨vs, nn, hs _ h1, h2, fun k hk => let ⟨q, us, mm, e, hm, hi⟩ := h3 k hk; ⟨q, us, mm, e, hs _ hm, hi⟩⟩
def TabAt (T : Addr) (ns : List Int) (nw : Led) : Prop := ∃ (vs : List Value) (nn : Nat), (T, listOf vs.toArray nn) ∈ nw ∧ IntsAre vs ns
theorem TabAt.mono {T : Addr} {ns : List Int} {nw nw' : Led} (h : TabAt T ns nw) (hs : ∀ p ∈ nw, p ∈ nw') : TabAt T ns nw' := by
  obtain ⟨vs, nn, h1, h2⟩ := h
  exact ⟨vs, nn, hs _ h1, h2⟩
def lgs : List Int := (List.range 16).map fun v => ((lg v : Nat) : Int)
theorem ints_at {vs : List Value} {f : Nat → Int} {n i : Nat} (h : IntsAre vs ((List.range n).map f)) (hi : i < n) : ∃ t, vs[i]? = some (.int (f i) t) :=
  h.get i (f i) (by simp [hi])
theorem ints_some {vs : List Value} {ns : List Int} {i : Nat} {v : Value} (h : IntsAre vs ns) (hv : vs[i]? = some v) : ∃ x t, v = .int x t ∧ ns[i]? = some x := by
  have hi : i < ns.length := by rw [← h.length]; exact (List.getElem?_eq_some_iff.mp hv).1
  obtain ⟨t, hx⟩ := h.get i (ns[i]'hi) (List.getElem?_eq_getElem hi)
  rw [hx] at hv
  exact ⟨_, t, (Option.some.inj hv).symm, List.getElem?_eq_getElem hi⟩
theorem add_xor : ∀ (n a b : Nat), a ≤ n → (a ^^^ b) + 2 * (a &&& b) = a + b := by
  intro n
  induction n with
  | zero => intro a b h; have : a = 0 := by omega
            subst this; simp
  | succ n ih =>
    intro a b h
    by_cases h0 : a = 0
    · subst h0; simp
    · have h1 := ih (a / 2) (b / 2) (by omega)
      have e1 : (a ^^^ b) / 2 = a / 2 ^^^ b / 2 := Nat.xor_div_two_pow (n := 1)
      have e2 : (a &&& b) / 2 = a / 2 &&& b / 2 := Nat.and_div_two_pow (n := 1)
      have e3 : (a ^^^ b) % 2 = a % 2 ^^^ b % 2 := Nat.xor_mod_two_pow (n := 1)
      have e4 : (a &&& b) % 2 = a % 2 &&& b % 2 := Nat.and_mod_two_pow (n := 1)
      have h2 : (a % 2 ^^^ b % 2) + 2 * (a % 2 &&& b % 2) = a % 2 + b % 2 := by
        have ha : a % 2 = 0 ∨ a % 2 = 1 := by omega
        have hb : b % 2 = 0 ∨ b % 2 = 1 := by omega
        rcases ha with ha | ha <;> rcases hb with hb | hb <;> rw [ha, hb] <;> decide
      omega
theorem bx (a b : Nat) : Builtin.bitXor (a : Int) (b : Int) = ((a ^^^ b : Nat) : Int) := by
  rw [bitXor_and, bitAnd_pp (by omega) (by omega)]
  have := add_xor a a b (Nat.le_refl _)
  simp only [Int.toNat_natCast]
  omega
theorem off1_of {D : Addr} : ∀ {l : Led}, (∀ q ∈ l, q.1 ≠ D) → LCg.Off1 D l
  | [], _ => trivial
  | _ :: _, h => ⟨h _ (.head _), off1_of fun q hq => h q (.tail _ hq)⟩
theorem setL_some {v : Value} : ∀ {l : List Value} {k : Nat}, k < l.length → ki_setL l k v = some (l.set k v)
  | [], k, h => by simp at h
  | x :: r, 0, _ => rfl
  | x :: r, k + 1, h => by
    have := setL_some (v := v) (l := r) (k := k) (by simpa using h)
    simp [ki_setL, this]
theorem ints_set {x : Int} {t : Tok} : ∀ {vs : List Value} {ns : List Int} (k : Nat), IntsAre vs ns → IntsAre (vs.set k (.int x t)) (ns.set k x)
  | _, _, k, .nil => by simp; exact .nil
  | _, _, 0, .cons a u r => .cons x t r
  | _, _, k + 1, .cons a u r => .cons a u (ints_set k r)
theorem off1_mem {D : Addr} : ∀ {l : Led}, LCg.Off1 D l → ∀ q ∈ l, q.1 ≠ D
  | [], _, _, h => nomatch h
  | _ :: _, x, q, h => by
    rcases List.mem_cons.mp h with rfl | h
    · exact x.1
    · exact off1_mem x.2 q h
section
variable {prog : Program} {w : World} {A : Around} {E : Value → Shared → Prop} {s : Shared} {env : Env} {h₀ : Heap} {L : Addr} {m : Str → Option Value} {news : Led}
theorem item_last {value slice : PySem.Expr} {l : Addr} {vs : List Value} {nn : Nat} {u : Tok} {v : Value} {Q : Value → Shared → Prop} (N : News h₀ L s.heap news) (hl : (l, listOf vs.toArray nn) ∈ news) (hp : 0 < vs.length) (hx : vs[vs.length - 1]? = some v) (h : Q v s)
    (hs : subscripted slice false (.ref l) (.int (-1) u) = operate [.ref l, .int (-1) u] (getItem (.ref l) (.int (-1) u)) := by with_unfolding_all rfl) :
    wpAny (model prog w) A (subscriptTail value slice (.ref l) (.int (-1) u)) Q E s :=
  have hl' : s.heap.IsList l vs.toArray := ⟨_, (N _ hl).1, rfl, nn, rfl⟩
  tail_any hl'.typeIs slot_list_getitem.lookup (wpAny_getItem_list_neg hl' (by decide) (by simp; omega) (by decide) (by
    have : (-1 + (vs.toArray.size : Int)).toNat = vs.length - 1 := by simp; omega
    rw [this]; simpa using hx) h) hs
theorem item_ints {value slice : PySem.Expr} {l : Addr} {vs : List Value} {ns : List Int} {nn : Nat} {k : Int} {u : Tok} {Q : Value → Shared → Prop} (N : News h₀ L s.heap news) (hl : (l, listOf vs.toArray nn) ∈ news) (hi : IntsAre vs ns) (h0 : 0 ≤ k) (h1 : k < (ns.length : Int)) (hhi : k < 2 ^ 62) (h : ∀ t, Q (.int (ns.getD k.toNat 0) t) s)
    (hs : subscripted slice false (.ref l) (.int k u) = operate [.ref l, .int k u] (getItem (.ref l) (.int k u)) := by with_unfolding_all rfl) :
    wpAny (model prog w) A (subscriptTail value slice (.ref l) (.int k u)) Q E s := by
  obtain ⟨t, e⟩ := hi.get k.toNat (ns.getD k.toNat 0) (by rw [List.getD_eq_getElem?_getD, List.getElem?_eq_getElem (by omega)]; rfl)
  exact item_list N hl h0 hhi e (h t) hs
theorem pw_bits {k : Int} (hk : k ≤ 6) : Builtin.Int.intBits ((16 : Int) ^ k.toNat) ≤ 64 := by
  have key : ∀ j : Fin 7, Builtin.Int.intBits ((16 : Int) ^ j.1) ≤ 64 := by decide +kernel
  exact key ⟨k.toNat, by omega⟩
theorem mul_pwr {a k : Int} {t u : Tok} {Q : Value → Shared → Prop} (hk : k ≤ 6) (h : Q (.int (a * 16 ^ k.toNat) s.toks) { s with toks := s.toks + 1 }) : wpAny (model prog w) A (binaryOp .Mult (.int a t) (.int ((16 : Int) ^ k.toNat) u)) Q E s := PyProof.Rows.mul_int h (IntMulOk.of_right (pw_bits hk))
theorem mul_pwl {a k : Int} {t u : Tok} {Q : Value → Shared → Prop} (hk : k ≤ 6) (h : Q (.int (16 ^ k.toNat * a) s.toks) { s with toks := s.toks + 1 }) : wpAny (model prog w) A (binaryOp .Mult (.int ((16 : Int) ^ k.toNat) t) (.int a u)) Q E s := PyProof.Rows.mul_int h (IntMulOk.of_left (pw_bits hk))
theorem set_led {l : Addr} {vs : List Value} {nn : Nat} {k : Int} {t : Tok} {v : Value} {news' : Led} {Q : Unit → Shared → Prop} (F : Fr h₀ L s.heap m) (N : News h₀ L s.heap news) (h0 : 0 ≤ k) (hhi : k < 2 ^ 63) (hk : k.toNat < vs.length) (U : Upd l (listOf vs.toArray nn) (listOf (vs.set k.toNat v).toArray nn) news news')
    (h : ∀ h', Fr h₀ L h' m → News h₀ L h' news' → Q () { s with heap := h' }) : wpAny (model prog w) A (setItem (.ref l) (.int k t) v) Q E s :=
  ki_set F N h0 hhi (setL_some hk) U h
theorem xor_nat {a b : Nat} {t u : Tok} {Q : Value → Shared → Prop} (h : Q (.int ((a ^^^ b : Nat) : Int) s.toks) { s with toks := s.toks + 1 }) : wpAny (model prog w) A (binaryOp .BitXor (.int (a : Int) t) (.int (b : Int) u)) Q E s := by
  refine xor_int ?_
  rw [bx]; exact h
end
section
variable {prog : Program} {w : World} {A : Around} {h₀ : Heap} {L : Addr} {m : Str → Option Value} {env : Env} {elt : PySem.Expr} {x : Str} {scope : Scope} {cl : List (Str × Addr)} {s : Shared} {S : List (Addr × Obj) → Prop} {Fin : List Value → List (Addr × Obj) → Prop} {news : List (Addr × Obj)}
/-- a list display over a made list of anything, whose items come out as ints -/
theorem comp_any {vs : List Value} (g : Nat → Int)
    (turn : ∀ i v I oI C oC D m₂ ys h tk (E' : Value → Shared → Prop), vs[i]? = some v → LCg.NsObj oC m₂ → m₂ x = some v → Fr h₀ L h m → News h₀ L h ((I, oI) :: (C, oC) :: (D, LCg.lst ys) :: news) → LCg.Off3 I C D news → ((@Ne Nat I C) ∧ (@Ne Nat I D) ∧ (@Ne Nat C D)) →
      wpAny (model prog w) A (eval elt (compEnvC scope cl C env)) (LCg.CompEnd h₀ L m { s with heap := h, toks := tk } I oI C oC D (LCg.lst ys) S (fun y news' => KCfEl news (g i) y news')) E' { s with heap := h, toks := tk })
    (fin : ∀ ys, IntsAre ys ((List.range vs.length).map g) → Fin ys news) : LCg.CompRest prog w A h₀ L m env elt x scope cl s S (fun i v => vs.toArray[i]? = some v) Fin vs.toArray.size 0 [] news := by
  have key : ∀ (j i : Nat) (ys : List Value), i + j = vs.length → IntsAre ys ((List.range i).map g) → LCg.CompRest prog w A h₀ L m env elt x scope cl s S (fun i v => vs.toArray[i]? = some v) Fin j i ys news := by
    intro j
    induction j with
    | zero =>
      intro i ys hi hy
      have e : i = vs.length := by omega
      subst e
      exact LCg.CompRest.zero (fin ys hy)
    | succ j ih =>
      intro i ys hi hy
      refine LCg.CompRest.succ ?_
      intro v I oI C oC D m₂ h tk E' hv hC hx F N off ne
      refine wpAny_mono (turn i v I oI C oC D m₂ ys h tk E' (by simpa using hv) hC hx F N off ne) (fun y s₂ hq => ?_) fun _ _ e => e
      obtain ⟨h', tk', nw, e, F', N', off', hS, hn, t', hy'⟩ := hq
      rw [hn] at N' off' hS
      refine ⟨h', tk', news, e, F', N', off', hS, ?_⟩
      rw [hy']
      refine ih (i + 1) _ (by omega) ?_
      rw [List.range_succ]
      simpa using IntsAre.append hy (.cons (g i) t' .nil)
  rw [List.size_toArray]
  exact key vs.length 0 [] (by omega) (by simp; exact .nil)
end
section
variable {prog : Program} {w : World} {A : Around} {E : Value → Shared → Prop} {s : Shared} {env : Env} {h₀ : Heap} {L : Addr} {m : Str → Option Value} {news : Led}
/-- a loop over a made list; the ledger turns, Inv holds of it -/
theorem loop_listG {x : Str} {body : List Stmt} {Q : Flow → Shared → Prop} {l : Addr} {vs : List Value} {nn : Nat} {m₀ : Str → Option Value} (Inv : Led → Prop) (h0 : Inv news) (stored : List Str)
    (hh : A.handled = none) (F : Fr h₀ env.locals s.heap m₀) (N : News h₀ env.locals s.heap news) (hl : ∀ nx, Inv nx → (l, listOf vs.toArray nn) ∈ nx)
    (turn : ∀ (nw : Led) (I : Addr) (i : Nat) (v : Value) (u : Str → Option Value) h tk oI, Inv nw → (∀ p ∈ nw, p.1 ≠ I) → vs[i]? = some v → Fr h₀ env.locals h (fun y => if y = x then some v else if stored.contains y then u y else m₀ y) → News h₀ env.locals h ((I, oI) :: nw) →
      wpAny (model prog w) A (execs body env) (ITurn h₀ env.locals I oI { s with heap := h, toks := tk } x (fun _ : Unit => []) stored m₀ (fun _ nx => Inv nx) Q) E { s with heap := h, toks := tk })
    (done : ∀ (nw : Led) (u : Str → Option Value) h tk, Inv nw → Fr h₀ env.locals h (fun y => if y = x then u y else if stored.contains y then u y else m₀ y) → News h₀ env.locals h nw → Q .next { s with heap := h, toks := tk }) :
    wpAny (model prog w) A (pyIter (.ref l)) (fun it s₂ => LoopAtV prog w A h₀ env x body Q E it s₂) E s := by
  have hl0 := hl _ h0
  have hol := (N _ hl0).1
  have hL : s.heap.IsList l vs.toArray := ⟨_, hol, rfl, nn, rfl⟩
  have hne : l ≠ s.heap.objs.size := Nat.ne_of_lt (Heap.lt_size hol)
  have hnl : ∀ p ∈ news, p.1 < s.heap.objs.size := fun p hp => Heap.lt_size (N p hp).1
  refine wpAny_pyIter_list hL ?_
  have W := Walks.list (prog := prog) (w := w) hh s.heap.objs.size l hne vs.toArray
  refine iloop (fun _ : Unit => []) stored (fun _ _ nx => Inv nx) () W ?_ ?_ ?_ (F.push _) (News.push F N _ rfl) (fun p hp => Nat.ne_of_lt (hnl p hp)) (fun _ h => nomatch h) h0 (.head _) (fun i h st => let ⟨o, ho, _⟩ := st.1; ⟨o, ho⟩) ?_ ?_
  · intro hm
    rcases List.mem_cons.mp hm with e | hm
    · exact absurd F.ns.lt (e ▸ Nat.lt_irrefl _)
    · exact (N _ hl0).2.1 (List.mem_singleton.mp hm).symm
  · intro a ha
    rcases List.mem_cons.mp ha with e | ha
    · exact .inl e
    · rw [List.mem_singleton.mp ha]; exact .inr (.inr ⟨listOf vs.toArray nn, fun _ _ nx e => hl nx e⟩)
  · exact ⟨⟨_, Heap.get?_push_size _ rfl, rfl, rfl⟩, hL.at fun o e => Heap.get?_push_of_some _ e⟩
  · rintro i _ v nx u h tk oI _ hP hI ha F' N'
    exact turn nx _ i v u h tk oI hI ha (by simpa using hP) F' N'
  · rintro _ nx u h tk hI _ F' N'
    exact done nx u h tk hI F' N'
end
end Mine

-- R3
namespace Mine
set_option maxRecDepth 100000 in
set_option maxHeartbeats 8000000 in
theorem reduce_bytes {w : World} {p : Program} {loose : List Str} {mean : ExcName → Option Value} {mg mb : Str → Option Value} (news : Led) (fa : Addr) (b : Array UInt8) (tb : Tok) (v0 : Value) (d u : Nat) (Inv : Nat → Value → Led → Prop) (h0 : Inv 0 v0 news)
  (hv : Told v0 news) {oc : Value} {od : Option Addr} {fd : FuncData} {sl : Array (Option Value)} (hfun : ∀ i v nx, Inv i v nx → (fa, (⟨oc, od, .func fd, sl⟩ : Obj)) ∈ nx)
  (hf : ∀ i v ch tc nx I oI, b[i]? = some ch → Inv i v nx → (∀ p ∈ nx, p.1 ≠ I) → FnSpec Challenge.rw_nq0005_03.row.prog w (hd.heap_39 w.params) p loose mean mg mb (.ref fa) [v, .int (ch.toNat : Int) tc] d u ((I, oI) :: nx) (fun r n => ∃ nx', n = (I, oI) :: nx' ∧ (∀ p ∈ nx', p.1 ≠ I) ∧ Inv (i + 1) r nx')) :
  FnSpec Challenge.rw_nq0005_03.row.prog w (hd.heap_39 w.params) p loose mean mg mb (.ref 23) [.ref fa, .bytes b tb, v0] (d + 1) (u + 8) news (fun r n => Inv b.size r n) := by
  k_fill
  intro dp un gd cn cs a ccd cl outer A₀ base h₀ L m s Q E B F X N T hk hd' hu hret
  refine wpAny_call ?_
  refine' code_def ?k1 ?k2 ?k3 ?k4 ?k5 ?kA ?kF ?kK ?k6 ?k7 ?k8 ?k9 ?kB ?_ ?c2 ?c3 ?c4 ?c5
  case kA => exact rfl
  case kF => exact rfl
  case kK => assumption
  case k1 => k_asm
  case k2 => k_asm
  case k3 => k_asm
  case k4 => k_asm
  case k5 => k_asm
  case k6 => k_is
  case k7 => k_is
  case k8 => ktr_room
  case k9 => exact binds_K (by k_in) rfl (by k_is) rfl rfl rfl
  case c5 => decide
  case kB => exact locs rfl
  case c2 => exact rfl
  case c3 => exact rfl
  case c4 => exact rfl
  k_whole
  intro g' L' h' FG' F' N' B' X' T'
  try dsimp only
  try k_lift B'
  try k_fold
  k_with_none
  k_with "call builtin:iter" => (k_here; refine iter_bytes (by k_asm) (by k_asm) ?_; intro I' h' F' N' l1; try k_lt l1)
  k_with "compareOp Is" => (k_here; refine is_missing (Told.more hv) (by k_asm) (by k_asm) (X' 15 _ rfl) (by decide) ?_)
  k_with "exec For" => (k_here; (rename Fr _ _ _ _ => lF'); (with_unfolding_all refine' For_invVF lF' ?k1 ?k2 ?_; (case k1 => exact rfl); (case k2 => exact rfl); k_whole))
  k_with "pyIter ref" => (
    k_here
    (rename Fr _ _ _ _ => lF'); (rename News _ _ _ _ => lN')
    with_unfolding_all refine loop_bytes (fun v => [(Str.ofString "value", v)]) [] Inv v0 rfl lF' lN' ?hnI ?hk h0 ?turn ?done
    case hnI => exact fun p hp => Nat.ne_of_lt (by first | exact l1 p hp | exact (by assumption : ∀ p ∈ news, p.1 < _) p hp)
    case hk => kst_all
    case' turn =>
      intro i v ch tc nx u' h' tk' oI hch hInv hnx F' N'
      have hfa : (fa, (⟨oc, od, .func fd, sl⟩ : Obj)) ∈ (I', oI) :: nx := .tail _ (hfun _ _ _ hInv)
      clear lF' lN'
    case' done =>
      intro v nx u' h' tk' hInv hnx F' N'
      clear lF' lN')
  k_with "callWith ref" => (k_here; refine callWith_F (FnAt.of (by k_asm) (by assumption)) ?_)
  k_with "And" => ((with_reducible show FnAt _ _ ∧ _); refine ⟨FnAt.of (by k_asm) (by assumption), ?_⟩; try dsimp only [List.nil_append, List.cons_append])
  k_with "call ref" => (
    k_here
    refine' hf _ _ _ _ _ _ _ (by assumption) (by assumption) (by assumption) _ _ _ _ _ _ _ _ _ _ _ _ _ _ _ _ _ ?k1 ?k2 ?k3 ?k4 ?k5 ?kK ?kd ?ku ?kR
    case k1 => k_asm
    case k2 => k_asm
    case k3 => k_asm
    case k4 => k_asm
    case k5 => k_asm
    case kK => first | exact rfl | assumption
    case kd => ktr_room
    case ku => ktr_units
    intro r' n' h' tk' F' N' hR'
    obtain ⟨nx', rfl, hnx', hInv'⟩ := hR')
  k_steps
  · exact hret _ _ _ _ (by k_asm) (by k_asm) (by assumption)
  · exact iturn_next _ _ (by assumption) (by assumption) (by assumption) (by kst_all) (by intro z h1 h2 h3; (simp only [List.forall_mem_cons, List.not_mem_nil, false_implies, implies_true, and_true, ne_eq] at h2); simp [kstB, h1, h2]) (by assumption)
end Mine

-- C3t
namespace Mine
set_option maxRecDepth 100000 in
set_option maxHeartbeats 8000000 in
theorem times_spec {w : World} {p : Program} {loose : List Str} {mean : ExcName → Option Value} {mg mb : Str → Option Value} (news : Led) (R T : Addr) (x y : Nat) (t1 t2 : Tok) (ha : x < 16) (hb : y < 16) (hR : RowsAt R 15 news) (hT : TabAt T lgs news) :
  FnSpec Challenge.rw_nq0005_03.row.prog w (hd.heap_39 w.params) p loose mean mg mb (.ref 49) [.ref R, .ref T, .int (x : Int) t1, .int (y : Int) t2] 1 8 news (fun r n => (∃ t, r = .int (gm x y : Nat) t) ∧ n = news) := by
  obtain ⟨vs, nn, hR1, hR2, hR3⟩ := hR
  obtain ⟨ts, tn, hT1, hT2⟩ := hT
  obtain ⟨q, us, mm, hq, hqm, hus⟩ := hR3 (lg x) (lg_lt x)
  obtain ⟨u1, e1⟩ := ints_at hT2 ha
  obtain ⟨u2, e2⟩ := ints_at hus hb
  have e1' : ts[(x : Int).toNat]? = some (.int ((lg x : Nat) : Int) u1) := by rw [Int.toNat_natCast]; exact e1
  have e2' : us[(y : Int).toNat]? = some (.int ((mg2 (lg x) y : Nat) : Int) u2) := by rw [Int.toNat_natCast]; exact e2
  have hq' : vs[((lg x : Nat) : Int).toNat]? = some (.ref q) := by rw [Int.toNat_natCast]; exact hq
  have hl := lg_lt x
  k_fill
  intro dp un gd cn cs a ccd cl outer A₀ base h₀ L m s Q E B F X N T hk hd' hu hret
  refine wpAny_call ?_
  k_dflt cell_enter
  k_with_none
  k_with "subscriptTail" => (k_here; refine item_list (by k_asm) (by assumption) (by omega) (by omega) (by assumption) ?_)
  k_steps
  · rw [show mg2 (lg x) y = gm x y by unfold gm; rw [if_pos (by omega)]]
    exact hret _ _ _ _ (by k_asm) (by k_asm) ⟨⟨_, rfl⟩, rfl⟩
  · exact hret _ _ _ _ (by k_asm) (by k_asm) ⟨⟨_, by rw [show gm x y = 0 by unfold gm; rw [if_neg (by omega)]]; rfl⟩, rfl⟩
end Mine

-- C3f
namespace Mine
section
variable {prog : Program} {w : World} {A : Around} {E : Value → Shared → Prop} {s : Shared}
theorem fd_pw {a k : Int} {t u : Tok} {Q : Value → Shared → Prop} (hk : k ≤ 6) (h : Q (.int (a.fdiv (16 ^ k.toNat)) s.toks) { s with toks := s.toks + 1 }) : wpAny (model prog w) A (binaryOp .FloorDiv (.int a t) (.int ((16 : Int) ^ k.toNat) u)) Q E s := by
  have key : ∀ j : Fin 7, ((16 : Int) ^ j.1) ≠ 0 ∧ ((16 : Int) ^ j.1).natAbs < 1073741824 := by decide +kernel
  have := key ⟨k.toNat, by omega⟩
  exact floordiv_int this.1 h (.inl (PyProof.noPylong_small this.2))
end
def fig (n k : Nat) : Nat := n / 16 ^ k % 16
def figs (n : Nat) : List Int := [(fig n 0 : Int), (fig n 1 : Int), (fig n 2 : Int), (fig n 3 : Int), (fig n 4 : Int)]
theorem figs_is (n : Nat) : List.map (fun k' : Int => ((n : Int).fdiv (16 ^ k'.toNat)).fmod 16) (PySem.W.rangeKs 0 (5 - 0 : Int).toNat) = figs n := by
  have e : PySem.W.rangeKs 0 (5 - 0 : Int).toNat = [0, 1, 2, 3, 4] := by decide +kernel
  have key : ∀ k : Nat, ((n : Int).fdiv (16 ^ k)).fmod 16 = (fig n k : Int) := fun k => by
    unfold fig
    rw [Int.fdiv_eq_ediv_of_nonneg _ (Int.le_of_lt (Int.pow_pos (by decide))), Int.fmod_eq_emod_of_nonneg _ (by decide)]
    push_cast; rfl
  rw [e]
  simp only [List.map_cons, List.map_nil]
  exact congr (congrArg _ (key 0)) (congr (congrArg _ (key 1)) (congr (congrArg _ (key 2)) (congr (congrArg _ (key 3)) (congr (congrArg _ (key 4)) rfl))))
theorem figs_end {h₀ h' : Heap} {L D c : Addr} {oc : Obj} {m : Str → Option Value} {news : Led} {s : Shared} {Q : Value → Shared → Prop} {n : Nat} {ys : List Value} {tk' : Nat}
    (hret : ∀ r news' h' tk', Fr h₀ L h' m → News h₀ L h' news' → (∃ D vs nn, r = .ref D ∧ news' = (D, listOf vs.toArray nn) :: news ∧ IntsAre vs (figs n) ∧ ∀ q ∈ news, q.1 ≠ D) → Q r { s with heap := h', toks := tk' })
    (F : Fr h₀ L h' m) (N : News h₀ L h' ((D, LCg.lst ys) :: (c, oc) :: news)) (hi : IntsAre ys (List.map (fun k' : Int => ((n : Int).fdiv (16 ^ k'.toNat)).fmod 16) (PySem.W.rangeKs 0 (5 - 0 : Int).toNat))) (off : LCg.Off1 D news) : Q (.ref D) { s with heap := h', toks := tk' } := by
  rw [figs_is] at hi
  refine hret _ ((D, listOf ys.toArray ys.length) :: news) h' tk' F (News.sub N ?_) ⟨D, ys, _, rfl, rfl, hi, off1_mem off⟩
  intro p hp
  rcases List.mem_cons.mp hp with rfl | hp
  · exact .head _
  · exact .tail _ (.tail _ hp)
set_option maxRecDepth 100000 in
set_option maxHeartbeats 8000000 in
theorem figures_spec {w : World} {p : Program} {loose : List Str} {mean : ExcName → Option Value} {mg mb : Str → Option Value} (news : Led) (n : Nat) (tn : Tok) (hn : n < 1048576) :
  FnSpec Challenge.rw_nq0005_03.row.prog w (hd.heap_39 w.params) p loose mean mg mb (.ref 61) [.int (n : Int) tn] 1 8 news (fun r n' => ∃ D vs nn, r = .ref D ∧ n' = (D, listOf vs.toArray nn) :: news ∧ IntsAre vs (figs n) ∧ ∀ q ∈ news, q.1 ≠ D) := by
  k_fill
  intro dp un gd cn cs a ccd cl outer A₀ base h₀ L m s Q E B F X N T hk hd' hu hret
  refine wpAny_call ?_
  k_dflt ((refine' code_defC ?k1 ?k2 ?k3 ?k4 ?k5 ?kA ?kF ?kK ?k6 ?k7 ?k8 ?k9 ?kB ?kD ?_ ?c2 ?c3 ?c4; (case kA => exact rfl); (case kF => exact rfl); (case kK => assumption); (case k1 => k_asm); (case k2 => k_asm); (case k3 => k_asm); (case k4 => k_asm); (case k5 => k_asm); (case k6 => k_is); (case k7 => k_is); (case k8 => ktr_room); (case k9 => exact BindsTo.of_eq rfl); (case kB => exact rfl); (case kD => decide +kernel); (case c2 => exact rfl); (case c3 => exact rfl); (case c4 => exact rfl); k_whole; intro g' L' h' tk' cells' FG' F' N' Y' B' X' T' l1; have l0' := Mine.Low.of l1; (try k_lt l1); k_cells Y'; (try simp only [List.cons_append, List.nil_append] at N'); (try dsimp only); (try k_lift B'); (try k_fold)))
  k_with_none
  k_with "binaryOp FloorDiv int int" => (k_here; refine fd_pw (by omega) ?_)
  k_steps
  exact figs_end hret (by k_asm) (by assumption) (by assumption) (And.right (by assumption))
end Mine

-- C3n
namespace Mine
theorem num_is (v : V) : (List.map (fun k' : Int => [(v.a : Int), (v.b : Int), (v.c : Int), (v.d : Int), (v.e : Int)].getD k'.toNat 0 * 16 ^ k'.toNat) (PySem.W.rangeKs 0 (5 - 0 : Int).toNat)).sum = ((num v : Nat) : Int) := by
  have e : PySem.W.rangeKs 0 (5 - 0 : Int).toNat = [0, 1, 2, 3, 4] := by decide +kernel
  rw [e]
  simp [num]
  omega
set_option maxRecDepth 100000 in
set_option maxHeartbeats 8000000 in
theorem number_spec {w : World} {p : Program} {loose : List Str} {mean : ExcName → Option Value} {mg mb : Str → Option Value} (news : Led) (D : Addr) (vs : List Value) (nn : Nat) (v : V) (hv : v.ok) (hD : (D, listOf vs.toArray nn) ∈ news) (hi : IntsAre vs [(v.a : Int), (v.b : Int), (v.c : Int), (v.d : Int), (v.e : Int)]) :
  FnSpec Challenge.rw_nq0005_03.row.prog w (hd.heap_39 w.params) p loose mean mg mb (.ref 66) [.ref D] 1 8 news (fun r n' => (∃ t, r = .int ((num v : Nat) : Int) t) ∧ n' = news) := by
  obtain ⟨h1, h2, h3, h4, h5⟩ := hv
  k_fill
  intro dp un gd cn cs a ccd cl outer A₀ base h₀ L m s Q E B F X N T hk hd' hu hret
  refine wpAny_call ?_
  k_dflt ((refine' code_defC ?k1 ?k2 ?k3 ?k4 ?k5 ?kA ?kF ?kK ?k6 ?k7 ?k8 ?k9 ?kB ?kD ?_ ?c2 ?c3 ?c4; (case kA => exact rfl); (case kF => exact rfl); (case kK => assumption); (case k1 => k_asm); (case k2 => k_asm); (case k3 => k_asm); (case k4 => k_asm); (case k5 => k_asm); (case k6 => k_is); (case k7 => k_is); (case k8 => ktr_room); (case k9 => exact BindsTo.of_eq rfl); (case kB => exact rfl); (case kD => decide +kernel); (case c2 => exact rfl); (case c3 => exact rfl); (case c4 => exact rfl); k_whole; intro g' L' h' tk' cells' FG' F' N' Y' B' X' T' l1; have l0' := Mine.Low.of l1; (try k_lt l1); k_cells Y'; (try simp only [List.cons_append, List.nil_append] at N'); (try dsimp only); (try k_lift B'); (try k_fold)))
  k_with_none
  k_with "subscriptTail Name Name" => (k_here; refine item_ints (by k_asm) (by (repeat (first | assumption | exact List.mem_cons_self | exact List.mem_append_right _ List.mem_cons_self | refine List.mem_cons_of_mem _ ?_))) (by assumption) (by omega) (by show _ < ((5 : Nat) : Int); omega) (by omega) ?_; intro u')
  k_with "binaryOp Mult int int" => (k_here; refine mul_pwr (by omega) ?_)
  k_steps
  (rename News h₀ L _ _ => kN)
  exact hret _ _ _ _ (by k_asm) (News.sub kN fun p hp => .tail _ (.tail _ hp)) ⟨⟨_, congrArg (Value.int · _) (num_is v)⟩, rfl⟩
end Mine

-- C3m
namespace Mine
/-- rows so far, in the loop of _law_multiples -/
def RInv (R : Addr) (news : Led) (i : Nat) (nx : Led) : Prop := ∃ (vs : List Value) (nn : Nat) (rest : Led), nx = (R, listOf vs.toArray nn) :: (rest ++ news) ∧ vs.length = i + 1 ∧ (∀ q ∈ rest ++ news, q.1 ≠ R) ∧ (∀ x ∈ rest, ∀ q ∈ news, x.1 ≠ q.1) ∧ ∀ k, k ≤ i → ∃ (q : Addr) (us : List Value) (mm : Nat), vs[k]? = some (.ref q) ∧ (q, listOf us.toArray mm) ∈ rest ∧ IntsAre us ((List.range 16).map fun v => ((mg2 k v : Nat) : Int))
theorem gn_ne {a : Nat} : ∀ {l : Led}, GnNe a l → ∀ q ∈ l, q.1 ≠ a := by
  intro l
  induction l with
  | nil => intro _ q hq; cases hq
  | cons p r ih =>
    intro h q hq
    rcases List.mem_cons.mp hq with rfl | hq
    · exact h.1
    · exact ih h.2 q hq
theorem row0 : List.map (fun a => a) (rangeInts 0 1 (16 - 0 : Int).toNat) = (List.range 16).map fun v => ((mg2 0 v : Nat) : Int) := by decide +kernel
theorem rinv0 {l q0 : Addr} {ys : List Value} {nn mm : Nat} {news : Led} (hl : q0 < l ∧ AllLt l news) (hg : GnNe q0 news) (hi : IntsAre ys (List.map (fun a => a) (rangeInts 0 1 (16 - 0 : Int).toNat))) : RInv l news 0 ((l, listOf [Value.ref q0].toArray nn) :: (q0, listOf ys.toArray mm) :: news) := by
  refine ⟨_, nn, [(q0, listOf ys.toArray mm)], rfl, rfl, ?_, ?_, ?_⟩
  · intro q hq
    rcases List.mem_cons.mp hq with rfl | hq
    · exact Nat.ne_of_lt hl.1
    · exact Nat.ne_of_lt (ktn_ltOf hl.2 q hq)
  · intro x hx q hq
    rw [List.mem_singleton.mp hx]
    exact Ne.symm (gn_ne hg q hq)
  · intro k hk
    have : k = 0 := by omega
    subst this
    exact ⟨q0, ys, mm, rfl, .head _, row0 ▸ hi⟩
theorem rinv1 {R D : Addr} {ys vs us : List Value} {nn n2 mm i : Nat} {rest news : Led} (hvl : vs.length = i + 1) (hne : ∀ q ∈ rest ++ news, q.1 ≠ R) (hdis : ∀ x ∈ rest, ∀ q ∈ news, x.1 ≠ q.1) (hDn : ∀ q ∈ rest ++ news, q.1 ≠ D) (hDR : R ≠ D)
    (hrow : ∀ k, k ≤ i → ∃ (q : Addr) (us : List Value) (mm : Nat), vs[k]? = some (.ref q) ∧ (q, listOf us.toArray mm) ∈ rest ∧ IntsAre us ((List.range 16).map fun v => ((mg2 k v : Nat) : Int)))
    (hus : IntsAre us ((List.range 16).map fun v => ((mg2 i v : Nat) : Int))) (hi : IntsAre ys ((List.range us.length).map fun v => ((mg2 (i + 1) v : Nat) : Int))) :
    RInv R news (i + 1) ((R, listOf (vs.toArray.push (.ref D)) nn) :: (((D, listOf ys.toArray mm) :: rest) ++ news)) := by
  have hl : us.length = 16 := by rw [hus.length]; simp
  rw [hl] at hi
  refine ⟨vs ++ [.ref D], nn, (D, listOf ys.toArray mm) :: rest, by simp, by simp [hvl], ?_, ?_, ?_⟩
  · intro q hq
    rcases List.mem_cons.mp hq with rfl | hq
    · exact Ne.symm hDR
    · exact hne q hq
  · intro x hx q hq
    rcases List.mem_cons.mp hx with rfl | hx
    · exact Ne.symm (hDn q (List.mem_append_right _ hq))
    · exact hdis x hx q hq
  · intro k hk
    by_cases e : k = i + 1
    · subst e
      exact ⟨D, ys, mm, by rw [List.getElem?_append_right (by omega), hvl]; simp, .head _, hi⟩
    · obtain ⟨q, us, m2, h1, h2, h3⟩ := hrow k (by omega)
      exact ⟨q, us, m2, by rw [List.getElem?_append_left (by omega)]; exact h1, .tail _ h2, h3⟩
theorem xt_hi {x : Nat} (h : (x : Int) > 7) : Builtin.bitXor (2 * (x : Int)) 19 = ((xt x : Nat) : Int) := by
  have := bx (2 * x) 19
  unfold xt
  rw [if_pos (by omega), ← this]; rfl
theorem xt_lo {x : Nat} (h : ¬ (x : Int) > 7) : 2 * (x : Int) = ((xt x : Nat) : Int) := by
  unfold xt
  rw [if_neg (by omega)]; omega
section
variable {prog : Program} {w : World} {A : Around} {h₀ : Heap} {L : Addr} {m : Str → Option Value} {env : Env} {elt : PySem.Expr} {x : Str} {scope : Scope} {cl : List (Str × Addr)} {s : Shared} {S : List (Addr × Obj) → Prop} {Fin : List Value → List (Addr × Obj) → Prop} {news : List (Addr × Obj)}
theorem comp_tab {vs : List Value} {f : Nat → Nat} {n : Nat} (hi : IntsAre vs ((List.range n).map fun v => ((f v : Nat) : Int))) (g : Nat → Nat)
    (turn : ∀ i t I oI C oC D m₂ ys h tk (E' : Value → Shared → Prop), LCg.NsObj oC m₂ → m₂ x = some (.int ((f i : Nat) : Int) t) → Fr h₀ L h m → News h₀ L h ((I, oI) :: (C, oC) :: (D, LCg.lst ys) :: news) → LCg.Off3 I C D news → ((@Ne Nat I C) ∧ (@Ne Nat I D) ∧ (@Ne Nat C D)) →
      wpAny (model prog w) A (eval elt (compEnvC scope cl C env)) (LCg.CompEnd h₀ L m { s with heap := h, toks := tk } I oI C oC D (LCg.lst ys) S (fun y news' => KCfEl news ((g (f i) : Nat) : Int) y news')) E' { s with heap := h, toks := tk })
    (fin : ∀ ys, IntsAre ys ((List.range vs.length).map fun v => ((g (f v) : Nat) : Int)) → Fin ys news) : LCg.CompRest prog w A h₀ L m env elt x scope cl s S (fun i v => vs.toArray[i]? = some v) Fin vs.toArray.size 0 [] news := by
  refine comp_any (fun i => ((g (f i) : Nat) : Int)) ?_ fin
  intro i v I oI C oC D m₂ ys h tk E' hv hC hx F N off ne
  obtain ⟨x', t, rfl, hx'⟩ := ints_some hi hv
  have hl : i < n := by
    have := (List.getElem?_eq_some_iff.mp hv).1
    rw [hi.length] at this; simpa using this
  have e : x' = ((f i : Nat) : Int) := by
    simp only [List.getElem?_map, List.getElem?_range hl, Option.map_some, Option.some.injEq] at hx'
    exact hx'.symm
  subst e
  exact turn i t I oI C oC D m₂ ys h tk E' hC hx F N off ne
end
theorem comp_end2 {h₀ : Heap} {L I C D ax : Addr} {m : Str → Option Value} {s₁ : Shared} {oI oC oD : Obj} {vs : List Value} {nn : Nat} {news : Led} {r r' : Int} {t : Tok} {h' : Heap} {tk : Nat} (e : r' = r)
    (F : Fr h₀ L h' m) (N : News h₀ L h' ((I, oI) :: (C, oC) :: (D, oD) :: news)) (off : LCg.Off3 I C D news) (hm : (ax, listOf vs.toArray nn) ∈ news) :
    LCg.CompEnd h₀ L m s₁ I oI C oC D oD (LCg.SrcAt h₀ ax vs.toArray) (fun y news' => KCfEl news r y news') (.int r' t) { s₁ with heap := h', toks := tk } :=
  LCg.CompEnd.intro F N news (fun _ h => h) off (.inr ⟨_, hm, rfl, _, rfl⟩) ⟨rfl, _, by rw [e]⟩
local macro_rules | `(tactic| walk_at "eval ListComp") => `(tactic| (k_here; k_dflt (refine LCg.ListComp_U (F₀ := by k_asm) (by with_unfolding_all rfl) (by decide) (by rfl) (by decide) (by rfl) ?_)))
local macro_rules | `(tactic| walk_at "use comp") => `(tactic| (k_here; (k_dflt (refine' LCg.CompSrc.ledger ?hh ?kF ?kN ?km ?ks ?_; (case hh => with_unfolding_all exact rfl); (case kF => k_asm); (case kN => k_asm); (case km => (refine List.mem_cons_of_mem _ (List.mem_cons_of_mem _ (List.mem_append_left _ ?_)); assumption)); (case ks => (rw [sizeLine_eq, List.size_toArray]; (have hl9 := IntsAre.length (by assumption : IntsAre _ ((List.range 16).map _))); (simp only [List.length_map, List.length_range] at hl9); omega)); intro g'; refine' comp_tab ?h1 xt ?turn ?fin; (case h1 => assumption)); (case' turn => intro i' t' I' oI' C' oC' D' m' ys' h' tk' E' hC' hx' F' N' off' ne'); (case' fin => intro ys' hI'))))
local macro_rules | `(tactic| walk_at "CompSrc") => `(tactic| walk_at "use comp")
local macro_rules | `(tactic| walk_at "comp end") => `(tactic| ((refine' comp_end2 ?he ?hF ?hN ?hoff ?hm; (case hN => assumption); (case hF => assumption); (case hoff => assumption); (case hm => (refine List.mem_cons_of_mem _ (List.mem_cons_of_mem _ (List.mem_append_left _ ?_)); assumption)); (case he => first | exact xt_hi (by assumption) | exact xt_lo (by assumption)))))
local macro_rules | `(tactic| walk_at "CompEnd") => `(tactic| walk_at "comp end")
local macro_rules | `(tactic| walk_at "use for") => `(tactic| (k_here; (rename Fr _ _ _ _ => lF'); (with_unfolding_all refine' For_invVF lF' ?k1 ?k2 ?_; (case k1 => exact rfl); (case k2 => exact rfl); k_whole)))
local macro_rules | `(tactic| walk_at "exec For Name Call cons nil") => `(tactic| walk_at "use for")
local macro_rules | `(tactic| walk_at "use loop") => `(tactic| (
    k_here
    (rename Fr _ _ _ _ => lF'); (rename News _ _ _ _ => lN')
    with_unfolding_all refine' loop_range (n := 14) (fun _ : Unit => []) [] (fun i _ nx => RInv _ _ i nx) () ?hh ?hr ?hsm ?hsz lF' lN' ?hk (rinv0 ?r1 ?r3 ?r2) ?turn ?done
    case hh => with_unfolding_all exact rfl
    case hr => assumption
    case hsm => decide
    case hsz => decide
    case hk => exact List.forall_mem_nil _
    case r1 => assumption
    case r3 => assumption
    case r2 => assumption
    case' turn =>
      intro I i st tc nx u' h' tk' oI hI0 hi hInv hnI F' N'
      clear lF' lN'
      unfold RInv at hInv
      obtain ⟨vs, nn, rest, hnx, hvl, hne, hdis, hrow⟩ := hInv
      subst hnx
      have hIR := Ne.symm (hnI _ List.mem_cons_self)
      obtain ⟨q, us, mm, hq, hqm, hus⟩ := hrow i (Nat.le_refl _)
      have hq' : vs[vs.length - 1]? = some (.ref q) := by rw [hvl, Nat.add_sub_cancel]; exact hq
    case' done =>
      intro st nx u' h' tk' hInv F' N'
      clear lF' lN'))
local macro_rules | `(tactic| walk_at "pyIter ref") => `(tactic| walk_at "use loop")
theorem mult_end {h₀ h' : Heap} {L R : Addr} {m : Str → Option Value} {news nx : Led} {s : Shared} {Q : Value → Shared → Prop} {tk' : Nat}
    (hret : ∀ r news' h' tk', Fr h₀ L h' m → News h₀ L h' news' → (∃ R rest, r = .ref R ∧ news' = rest ++ news ∧ RowsAt R 15 rest ∧ ∀ x ∈ rest, ∀ q ∈ news, x.1 ≠ q.1) → Q r { s with heap := h', toks := tk' })
    (F : Fr h₀ L h' m) (N : News h₀ L h' nx) (hi : RInv R news 14 nx) : Q (.ref R) { s with heap := h', toks := tk' } := by
  obtain ⟨vs, nn, rest, rfl, hvl, hne, hdis, hrow⟩ := hi
  refine hret _ (((R, listOf vs.toArray nn) :: rest) ++ news) h' tk' F N ⟨R, _, rfl, rfl, ⟨vs, nn, .head _, hvl, fun k hk => ?_⟩, ?_⟩
  · obtain ⟨q, us, mm, h1, h2, h3⟩ := hrow k (by omega)
    exact ⟨q, us, mm, h1, .tail _ h2, h3⟩
  · intro x hx q hq
    rcases List.mem_cons.mp hx with rfl | hx
    · exact Ne.symm (hne q (List.mem_append_right _ hq))
    · exact hdis x hx q hq
theorem mult_turn {h₀ h' : Heap} {L R I D : Addr} {oI : Obj} {m' m₀ : Str → Option Value} {x : Str} {stored : List Str} {news rest : Led} {s : Shared} {Q : Flow → Shared → Prop} {tk' : Nat} {ys vs us : List Value} {nn i : Nat}
    (F : Fr h₀ L h' m') (N : News h₀ L h' ((D, LCg.lst ys) :: (I, oI) :: (R, listOf (vs.toArray.push (.ref D)) (nn + 1)) :: (rest ++ news))) (hvl : vs.length = i + 1) (hne : ∀ q ∈ rest ++ news, q.1 ≠ R) (hdis : ∀ x ∈ rest, ∀ q ∈ news, x.1 ≠ q.1)
    (hrow : ∀ k, k ≤ i → ∃ (q : Addr) (us : List Value) (mm : Nat), vs[k]? = some (.ref q) ∧ (q, listOf us.toArray mm) ∈ rest ∧ IntsAre us ((List.range 16).map fun v => ((mg2 k v : Nat) : Int)))
    (hus : IntsAre us ((List.range 16).map fun v => ((mg2 i v : Nat) : Int))) (hi : IntsAre ys ((List.range us.length).map fun v => ((xt (mg2 i v) : Nat) : Int)))
    (hnI : ∀ p ∈ (R, listOf vs.toArray nn) :: (rest ++ news), p.1 ≠ I) (hD : I ≠ D ∧ R ≠ D ∧ LCg.Off1 D (rest ++ news))
    (hr : ∀ z, z ≠ x → (∀ p ∈ ([] : List (Str × Value)), z ≠ p.1) → stored.contains z = false → m' z = m₀ z) :
    ITurn h₀ L I oI s x (fun _ : Unit => []) stored m₀ (fun _ nx => RInv R news (i + 1) nx) Q .next { s with heap := h', toks := tk' } := by
  refine iturn_next () ((R, listOf (vs.toArray.push (.ref D)) (nn + 1)) :: (((D, listOf ys.toArray ys.length) :: rest) ++ news)) F (News.sub N ?_) ?_ (fun _ h => nomatch h) hr (rinv1 (n2 := 0) hvl hne hdis (off1_mem hD.2.2) hD.2.1 hrow hus hi)
  · intro p hp
    simp only [List.cons_append, List.mem_cons, List.mem_append] at hp ⊢
    rcases hp with h | h | h | h | h <;> simp [h]
  · intro p hp
    rcases List.mem_cons.mp hp with rfl | hp
    · exact hnI (R, listOf vs.toArray nn) (.head _)
    · rcases List.mem_cons.mp hp with rfl | hp
      · exact Ne.symm hD.1
      · exact hnI p (.tail _ hp)
set_option maxRecDepth 100000 in
set_option maxHeartbeats 8000000 in
theorem mult_spec {w : World} {p : Program} {loose : List Str} {mean : ExcName → Option Value} {mg mb : Str → Option Value} (news : Led) :
  FnSpec Challenge.rw_nq0005_03.row.prog w (hd.heap_39 w.params) p loose mean mg mb (.ref 35) [] 1 8 news (fun r n' => ∃ R rest, r = .ref R ∧ n' = rest ++ news ∧ RowsAt R 15 rest ∧ ∀ x ∈ rest, ∀ q ∈ news, x.1 ≠ q.1) := by
  k_fill
  intro dp un gd cn cs a ccd cl outer A₀ base h₀ L m s Q E B F X N T hk hd' hu hret
  refine wpAny_call ?_
  k_dflt cell_enter
  k_with_none
  k_with "subscriptTail Name UnaryOp" => (k_here; refine item_last (by k_asm) (by (repeat (first | assumption | exact List.mem_cons_self | exact List.mem_append_right _ List.mem_cons_self | refine List.mem_cons_of_mem _ ?_))) (by omega) (by assumption) ?_)
  k_with "call builtin:list.append" => (
    k_here
    refine' append_K (by k_asm) (by k_asm) (Upd.tail ?d1 (Upd.tail ?d2 (Upd.head ?d3))) ?_ ?z
    case d1 => exact Ne.symm (And.left (And.right (by assumption)))
    case d2 => assumption
    case d3 => assumption
    case z => rw [sizeLine_eq, List.size_toArray]; omega
    intro h' F' N')
  k_steps
  · exact mult_end hret (by k_asm) (by assumption) (by assumption)
  · refine mult_turn (by assumption) (by assumption) (by assumption) (by assumption) (by assumption) (by assumption) (by assumption) (by assumption) (by assumption) (by assumption) ?_
    intro z h1 h2 h3
    simp [kstB, h1]
end Mine

-- C3u
namespace Mine
def tsUp (i : Nat) : List Int := (List.range 16).map fun v => if v ≠ 0 ∧ lg v < i then ((lg v : Nat) : Int) else 0
theorem tsUp_step {i : Nat} (h : i < 15) : (tsUp i).set (mg2 i 1) (0 + (i : Int) * 1) = tsUp (i + 1) := by
  have : ∀ i : Fin 15, (tsUp i.1).set (mg2 i.1 1) (0 + (i.1 : Int) * 1) = tsUp (i.1 + 1) := by decide +kernel
  exact this ⟨i, h⟩
theorem tsUp_end : tsUp 15 = lgs := by decide +kernel
theorem tsUp_0 : (List.replicate (Int.toNat 16) [(0 : Int)]).flatten = tsUp 0 := by decide +kernel
def TInv (T : Addr) (tl : Led) (i : Nat) (nx : Led) : Prop := ∃ ts : List Value, nx = (T, listOf ts.toArray 0) :: tl ∧ IntsAre ts (tsUp i)
theorem tinv0 {T : Addr} {tl : Led} {ts : List Value} (h : IntsAre ts (List.replicate (Int.toNat 16) [(0 : Int)]).flatten) : TInv T tl 0 ((T, listOf ts.toArray 0) :: tl) := ⟨ts, rfl, tsUp_0 ▸ h⟩
theorem turns_end {h₀ h' : Heap} {L T : Addr} {q : Addr × Obj} {m : Str → Option Value} {news nx : Led} {s : Shared} {Q : Value → Shared → Prop} {tk' : Nat}
    (hret : ∀ r news' h' tk', Fr h₀ L h' m → News h₀ L h' news' → (∃ T ts nn, r = .ref T ∧ news' = (T, listOf ts.toArray nn) :: news ∧ IntsAre ts lgs ∧ ∀ q ∈ news, q.1 ≠ T) → Q r { s with heap := h', toks := tk' })
    (F : Fr h₀ L h' m) (N : News h₀ L h' nx) (hi : TInv T (q :: news) 15 nx) (hne : q.1 < T ∧ AllLt T news) : Q (.ref T) { s with heap := h', toks := tk' } := by
  obtain ⟨ts, rfl, hi⟩ := hi
  refine hret _ ((T, listOf ts.toArray 0) :: news) h' tk' F (News.sub N ?_) ⟨T, ts, 0, rfl, rfl, tsUp_end ▸ hi, fun q hq => Nat.ne_of_lt (ktn_ltOf hne.2 q hq)⟩
  intro p hp
  rcases List.mem_cons.mp hp with rfl | hp
  · exact .head _
  · exact .tail _ (.tail _ hp)
theorem turns_turn {h₀ h' : Heap} {L T I : Addr} {oI : Obj} {m' m₀ : Str → Option Value} {x : Str} {stored : List Str} {tl : Led} {s : Shared} {Q : Flow → Shared → Prop} {tk' : Nat} {ts : List Value} {i : Nat} {tc : Tok}
    (F : Fr h₀ L h' m') (N : News h₀ L h' ((I, oI) :: (T, listOf (ts.set (((mg2 i 1 : Nat) : Int).toNat) (.int (0 + (i : Int) * 1) tc)).toArray 0) :: tl)) (hi : i < 15) (hts : IntsAre ts (tsUp i)) (hnI : ∀ p ∈ (T, listOf ts.toArray 0) :: tl, p.1 ≠ I)
    (hr : ∀ z, z ≠ x → (∀ p ∈ ([] : List (Str × Value)), z ≠ p.1) → stored.contains z = false → m' z = m₀ z) :
    ITurn h₀ L I oI s x (fun _ : Unit => []) stored m₀ (fun _ nx => TInv T tl (i + 1) nx) Q .next { s with heap := h', toks := tk' } := by
  refine iturn_next () _ F N ?_ (fun _ h => nomatch h) hr ⟨_, rfl, ?_⟩
  · intro p hp
    rcases List.mem_cons.mp hp with rfl | hp
    · exact hnI (T, listOf ts.toArray 0) (.head _)
    · exact hnI p (.tail _ hp)
  · rw [← tsUp_step hi, Int.toNat_natCast]
    exact ints_set _ hts
theorem allne {d a : Addr} {o : Obj} {news : Led} (h : a < d ∧ AllLt d news) : ∀ p ∈ (a, o) :: news, p.1 ≠ d := by
  intro p hp
  rcases List.mem_cons.mp hp with rfl | hp
  · exact Nat.ne_of_lt h.1
  · exact Nat.ne_of_lt (ktn_ltOf h.2 p hp)
theorem at_loop {vs : List Value} {i : Nat} {v : Value} (h : vs[i]? = some v) : vs[(0 + (i : Int) * 1).toNat]? = some v := by
  rw [show (0 + (i : Int) * 1).toNat = i by omega]; exact h
local macro_rules | `(tactic| walk_at "use for") => `(tactic| (k_here; (rename Fr _ _ _ _ => lF'); (with_unfolding_all refine' For_invVF lF' ?k1 ?k2 ?_; (case k1 => exact rfl); (case k2 => exact rfl); k_whole)))
local macro_rules | `(tactic| walk_at "exec For Name Call cons nil") => `(tactic| walk_at "use for")
local macro_rules | `(tactic| walk_at "use loop") => `(tactic| (
    k_here
    (rename Fr _ _ _ _ => lF'); (rename News _ _ _ _ => lN')
    with_unfolding_all refine' loop_range (n := 15) (fun _ : Unit => []) [] (fun i _ nx => TInv _ _ i nx) () ?hh ?hr ?hsm ?hsz lF' lN' ?hk (tinv0 ?r2) ?turn ?done
    case hh => with_unfolding_all exact rfl
    case hr => assumption
    case hsm => decide
    case hsz => decide
    case hk => exact List.forall_mem_nil _
    case r2 => assumption
    case' turn =>
      intro I i st tc nx u' h' tk' oI hI0 hi hInv hnI F' N'
      clear lF' lN'
      unfold TInv at hInv
      obtain ⟨ts, hnx, hts⟩ := hInv
      subst hnx
      have hIT := Ne.symm (hnI _ List.mem_cons_self)
      have hml := mg2_lt hi (by decide : 1 < 16)
      have htl := IntsAre.length hts
      obtain ⟨q, us, mm, hq, hqm, hus⟩ := (by assumption : ∀ k, k < 15 → ∃ (q : Addr) (us : List Value) (mm : Nat), _ ∧ _ ∧ _) i hi
      obtain ⟨u2, e2⟩ := ints_at hus (by decide : 1 < 16)
      have hq' := at_loop hq
    case' done =>
      intro st nx u' h' tk' hInv F' N'
      clear lF' lN'))
local macro_rules | `(tactic| walk_at "pyIter ref") => `(tactic| walk_at "use loop")
local macro_rules | `(tactic| walk_at "use set") => `(tactic| (k_here; refine' set_led ?hF ?hN ?h0 ?h1 ?h2 (Upd.tail ?d1 (Upd.head ?d2)) ?_; (case hF => k_asm); (case hN => k_asm); (case h0 => exact Int.natCast_nonneg _); (case h1 => omega); (case h2 => (rw [Int.toNat_natCast]; simp only [tsUp, List.length_map, List.length_range] at *; omega)); (case d1 => assumption); (case d2 => exact allne (by assumption)); intro h' F' N'))
set_option maxRecDepth 100000 in
set_option maxHeartbeats 8000000 in
theorem turns_spec {w : World} {p : Program} {loose : List Str} {mean : ExcName → Option Value} {mg mb : Str → Option Value} (news : Led) (R : Addr) (hR : RowsAt R 15 news) :
  FnSpec Challenge.rw_nq0005_03.row.prog w (hd.heap_39 w.params) p loose mean mg mb (.ref 42) [.ref R] 1 8 news (fun r n' => ∃ T ts nn, r = .ref T ∧ n' = (T, listOf ts.toArray nn) :: news ∧ IntsAre ts lgs ∧ ∀ q ∈ news, q.1 ≠ T) := by
  obtain ⟨vs, nn, hR1, hR2, hR3⟩ := hR
  k_fill
  intro dp un gd cn cs a ccd cl outer A₀ base h₀ L m s Q E B F X N T hk hd' hu hret
  refine wpAny_call ?_
  k_dflt cell_enter
  k_with_none
  k_with "subscriptTail Name Name" => (k_here; refine item_list (by k_asm) (by (repeat (first | assumption | exact List.mem_cons_self | exact List.mem_append_right _ List.mem_cons_self | refine List.mem_cons_of_mem _ ?_))) (by omega) (by omega) (by assumption) ?_)
  k_with "subscriptTail Subscript" => (k_here; refine item_list (by k_asm) (by (repeat (first | assumption | exact List.mem_cons_self | exact List.mem_append_right _ List.mem_cons_self | refine List.mem_cons_of_mem _ ?_))) (by omega) (by omega) (by assumption) ?_)
  k_with "setItem ref int" => walk_at "use set"
  k_steps
  · exact turns_end hret (by k_asm) (by assumption) (by assumption) (by assumption)
  · refine turns_turn (by assumption) (by assumption) (by assumption) (by assumption) (by assumption) ?_
    intro z h1 h2 h3
    simp [kstB, h1]
end Mine

-- V3b
namespace Mine
def digs (n : Nat) : List Nat := (wordB n).map fun c => c.toNat - 65
theorem digs_zero : digs 0 = [] := by simp [digs, wordB_zero]
theorem digs_step {n : Nat} (h : n ≠ 0) : digs n = digs (n / 16) ++ [n % 16] := by
  unfold digs
  rw [wordB_step h, List.map_append]
  have : (UInt8.ofNat (65 + n % 16)).toNat - 65 = n % 16 := by
    rw [UInt8.toNat_ofNat_of_lt' (by show _ < 256; omega)]; omega
  simp only [List.map_cons, List.map_nil, this]
theorem wordB_len : ∀ (k n : Nat), n < 16 ^ k → (wordB n).length ≤ k
  | 0, n, h => by have : n = 0 := by simpa using h
                  subst this; rw [wordB_zero]; simp
  | k + 1, n, h => by
    by_cases h0 : n = 0
    · subst h0; rw [wordB_zero]; simp
    · rw [wordB_step h0, List.length_append]
      have := wordB_len k (n / 16) (by rw [Nat.pow_succ] at h; omega)
      simp; omega
theorem wordB_mem : ∀ (n : Nat) (c : UInt8), c ∈ wordB n → ∃ i, i < 16 ∧ c.toNat = 65 + i := by
  intro n
  induction n using Nat.strongRecOn with
  | ind n ih =>
    intro c hc
    by_cases h0 : n = 0
    · subst h0; rw [wordB_zero] at hc; cases hc
    · rw [wordB_step h0] at hc
      rcases List.mem_append.mp hc with hc | hc
      · exact ih (n / 16) (by omega) c hc
      · rw [List.mem_singleton.mp hc]
        refine ⟨n % 16, by omega, ?_⟩
        rw [UInt8.toNat_ofNat_of_lt']; show _ < 256; omega
/-- what reduce makes of the letters at the K-th power -/
def hv (K : Nat) (fs : List Nat) : Nat := fs.foldl (fun v c => mg2 K v ^^^ c) 0
theorem hv_snoc (K : Nat) (fs : List Nat) (c : Nat) : hv K (fs ++ [c]) = mg2 K (hv K fs) ^^^ c := by simp [hv]
theorem digs_lt (n : Nat) : ∀ c ∈ digs n, c < 16 := by
  intro c hc
  obtain ⟨u, hu, rfl⟩ := List.mem_map.mp hc
  obtain ⟨i, hi, e⟩ := wordB_mem n u hu
  omega
theorem hv_lt {K : Nat} (hK : K < 15) : ∀ (r fs : List Nat), (∀ c ∈ fs, c < 16) → hv K fs < 16 := by
  intro _ fs
  have key : ∀ (fs : List Nat) (v : Nat), v < 16 → (∀ c ∈ fs, c < 16) → fs.foldl (fun v c => mg2 K v ^^^ c) v < 16 := by
    intro fs
    induction fs with
    | nil => intro v hv _; simpa using hv
    | cons c r ih =>
      intro v hv h
      exact ih _ (xlt (mg2_lt hK hv) (h c (.head _))) fun d hd => h d (.tail _ hd)
  exact key fs 0 (by decide)
theorem hv_take {K : Nat} (hK : K < 15) (n i : Nat) : hv K ((digs n).take i) < 16 := hv_lt hK [] _ fun c hc => digs_lt n c (List.mem_of_mem_take hc)
theorem mg2_0 {K : Nat} (hK : K < 15) : mg2 K 0 = 0 := by
  have : ∀ K : Fin 15, mg2 K.1 0 = 0 := by decide +kernel
  exact this ⟨K, hK⟩
theorem hv_dig {K : Nat} (hK : K < 15) (n : Nat) : hv K (digs n) = mg2 K (hv K (digs (n / 16))) ^^^ (n % 16) := by
  by_cases h : n = 0
  · subst h; simp [digs_zero, hv, mg2_0 hK]
  · rw [digs_step h, hv_snoc]
def vec (n : Nat) : V := ⟨fig n 0, fig n 1, fig n 2, fig n 3, fig n 4⟩
theorem fig_lt (n k : Nat) : fig n k < 16 := by unfold fig; omega
theorem vec_ok (n : Nat) : (vec n).ok := ⟨fig_lt n 0, fig_lt n 1, fig_lt n 2, fig_lt n 3, fig_lt n 4⟩
theorem figs5 (n : Nat) : fig n 0 = n % 16 ∧ fig n 1 = n / 16 % 16 ∧ fig n 2 = n / 16 / 16 % 16 ∧ fig n 3 = n / 16 / 16 / 16 % 16 ∧ fig n 4 = n / 16 / 16 / 16 / 16 % 16 := by
  refine ⟨by simp [fig], by simp [fig], ?_, ?_, ?_⟩ <;> simp [fig, Nat.div_div_eq_div_mul]
theorem hv_ev {K : Nat} (hK : K < 15) {n : Nat} (h : n < 1048576) : hv K (digs n) = ev K (vec n) := by
  obtain ⟨f0, f1, f2, f3, f4⟩ := figs5 n
  rw [hv_dig hK n, hv_dig hK (n / 16), hv_dig hK (n / 16 / 16), hv_dig hK (n / 16 / 16 / 16), hv_dig hK (n / 16 / 16 / 16 / 16), show n / 16 / 16 / 16 / 16 / 16 = 0 by omega, digs_zero]
  unfold ev vec
  dsimp only
  rw [f0, f1, f2, f3, f4]
  simp [hv, mg2_0 hK]
def imgUp (n : Nat) : Nat → Nat
  | 0 => 0
  | i + 1 => imgUp n i + 16 ^ i * hv (3 * i) (digs n)
/-- the image -/
def img (n : Nat) : Nat := num (F (vec n))
theorem img_up {n : Nat} (h : n < 1048576) : imgUp n 5 = img n := by
  unfold img num F
  simp only [imgUp]
  rw [hv_ev (by decide) h, hv_ev (by decide) h, hv_ev (by decide) h, hv_ev (by decide) h, hv_ev (by decide) h]
  simp
theorem num_lt {v : V} (h : v.ok) : num v < 1048576 := by
  obtain ⟨h1, h2, h3, h4, h5⟩ := h
  unfold num; omega
theorem vec_num {v : V} (h : v.ok) : vec (num v) = v := by
  obtain ⟨h1, h2, h3, h4, h5⟩ := h
  obtain ⟨f0, f1, f2, f3, f4⟩ := figs5 (num v)
  unfold vec
  rw [f0, f1, f2, f3, f4]
  unfold num
  apply V.of_l
  unfold V.l
  dsimp only
  refine congr (congrArg _ (by omega)) (congr (congrArg _ (by omega)) (congr (congrArg _ (by omega)) (congr (congrArg _ (by omega)) (congr (congrArg _ (by omega)) rfl))))
theorem num_vec {n : Nat} (h : n < 1048576) : num (vec n) = n := by
  obtain ⟨f0, f1, f2, f3, f4⟩ := figs5 n
  unfold num vec
  dsimp only
  rw [f0, f1, f2, f3, f4]
  omega
theorem img_lt (n : Nat) : img n < 1048576 := num_lt (F_ok (vec_ok n))
theorem vec_img (n : Nat) : vec (img n) = F (vec n) := vec_num (F_ok (vec_ok n))
/-- asked first: twice the image -/
theorem img_img (n : Nat) : img (img n) = num (rev (vec n)) := by
  show num (F (vec (img n))) = _
  rw [vec_img, FF (vec_ok n)]
theorem fig_xor (a b k : Nat) : fig (a ^^^ b) k = fig a k ^^^ fig b k := by
  unfold fig
  have e : (16 : Nat) ^ k = 2 ^ (4 * k) := by rw [Nat.pow_mul]
  rw [e, Nat.xor_div_two_pow]
  exact Nat.xor_mod_two_pow (n := 4)
theorem vec_xor (a b : Nat) : vec (a ^^^ b) = (vec a).x (vec b) := by
  unfold vec V.x
  simp only [fig_xor]
theorem x_lt {a b : Nat} (ha : a < 1048576) (hb : b < 1048576) : a ^^^ b < 1048576 := Nat.xor_lt_two_pow (n := 20) ha hb
/-- asked second: the image of an exclusive or -/
theorem img_xor (a b : Nat) : img (a ^^^ b) = img a ^^^ img b := by
  have h : vec (img (a ^^^ b)) = vec (img a ^^^ img b) := by
    rw [vec_img, vec_xor, F_x (vec_ok a) (vec_ok b), vec_xor, vec_img, vec_img]
  have := congrArg num h
  rwa [num_vec (img_lt _), num_vec (x_lt (img_lt _) (img_lt _))] at this
/-- asked third: the image of a product round the ring -/
theorem img_ring (a b : Nat) : vec (img (num (ring (vec a) (vec b)))) = dot (vec (img a)) (vec (img b)) := by
  rw [vec_img, vec_num (ring_ok (vec_ok b)), conv (vec_ok a) (vec_ok b), vec_img, vec_img]
end Mine

-- M3
namespace Mine
abbrev lp51 : Pos := { line := 42, col := 41, endLine := 42, endCol := 79 }
abbrev lq51 : Str := Str.ofString "_law_image" ++ ".<locals>." ++ "<lambda>"
theorem int2ap_to {w : World} {p : Program} {loose : List Str} {mean : ExcName → Option Value} {mg mb : Str → Option Value} (news : Led) (n : Int) (t : Tok) (m : Nat) (hm : n.natAbs = m) (hn : m < 16 ^ 100) :
    FnSpec Challenge.rw_nq0005_03.row.prog w (hd.heap_39 w.params) p loose mean mg mb (.ref 30) [.int n t] 1 8 news (fun r n' => (∃ t, r = .bytes (wordB m).toArray t) ∧ n' = news) := by
  subst hm
  intro dp un gd cn cs a ccd cl outer A₀ base h₀ L m s Q E B F X N T hk hd' hu hret
  exact int2ap news n t dp un gd cn cs a ccd cl outer A₀ base h₀ L m s Q E B F X N T hk (Nat.le_trans (wordB_len 100 _ hn) (by decide)) hd' hu fun t' h' tk' F' N' => hret _ _ h' tk' F' N' ⟨⟨t', rfl⟩, rfl⟩
def Lam51 (w : World) (p : Program) (loose : List Str) (mean : ExcName → Option Value) (mg mb : Str → Option Value) (f : Addr) (lam : Obj) (c' : Addr) (oc : Obj) (cell : Addr) (oc2 : Obj) (q : Addr) (oq : Obj) (K : Nat) : Prop :=
  ∀ (nx : Led) (v c : Nat) (tv tl : Tok), (f, lam) ∈ nx → (c', oc) ∈ nx → (cell, oc2) ∈ nx → (q, oq) ∈ nx → v < 16 → c < 16 →
    FnSpec Challenge.rw_nq0005_03.row.prog w (hd.heap_39 w.params) p loose mean mg mb (.ref f) [.int (v : Int) tv, .int (65 + (c : Int)) tl] 1 8 nx (fun r n => (∃ t, r = .int ((mg2 K v ^^^ c : Nat) : Int) t) ∧ n = nx)
theorem red51 {w : World} {p : Program} {loose : List Str} {mean : ExcName → Option Value} {mg mb : Str → Option Value} {f : Addr} {fd : FuncData} {c' : Addr} {oc : Obj} {cell : Addr} {oc2 : Obj} {q : Addr} {oq : Obj} {K N : Nat} (hlam : Lam51 w p loose mean mg mb f ⟨.type "function", none, .func fd, #[]⟩ c' oc cell oc2 q oq K) (nw : Led) (t tb : Tok) (hK : K < 15)
    (h1 : (f, (⟨.type "function", none, .func fd, #[]⟩ : Obj)) ∈ nw) (h2 : (c', oc) ∈ nw) (h3 : (cell, oc2) ∈ nw) (h4 : (q, oq) ∈ nw) :
    FnSpec Challenge.rw_nq0005_03.row.prog w (hd.heap_39 w.params) p loose mean mg mb (.ref 23) [.ref f, .bytes (wordB N).toArray tb, .int 0 t] 2 16 nw (fun v n => (∃ t, v = .int ((hv K (digs N) : Nat) : Int) t) ∧ n = nw) := by
  have key := reduce_bytes (w := w) (p := p) (loose := loose) (mean := mean) (mg := mg) (mb := mb) nw f (wordB N).toArray tb (.int 0 t) 1 8 (fun i v nx => (∃ t, v = .int ((hv K ((digs N).take i) : Nat) : Int) t) ∧ nx = nw) ⟨⟨t, by simp [hv]⟩, rfl⟩ (.inl ⟨_, _, rfl⟩) (fun i v nx h => h.2 ▸ h1) ?_
  · refine key.mono (fun _ h => h) (by decide) (by decide) fun r m h => ⟨m, fun _ h => h, ?_⟩
    have : (digs N).take (wordB N).toArray.size = digs N := List.take_of_length_le (by simp [digs])
    rw [this] at h
    exact h
  · rintro i v ch tc nx I oI hch ⟨⟨t', rfl⟩, rfl⟩ hI
    have hch' : (wordB N)[i]? = some ch := by simpa using hch
    obtain ⟨j, hj, hcj⟩ := wordB_mem N ch (List.mem_of_getElem? hch')
    have hd : (digs N)[i]? = some j := by
      unfold digs; rw [List.getElem?_map, hch']; simp; omega
    have e : (digs N).take (i + 1) = (digs N).take i ++ [j] := by rw [List.take_add_one, hd]; rfl
    have := hlam ((I, oI) :: nx) (hv K ((digs N).take i)) j t' tc (.tail _ h1) (.tail _ h2) (.tail _ h3) (.tail _ h4) (hv_take hK N i) hj
    rw [show ((ch.toNat : Nat) : Int) = 65 + (j : Int) by omega]
    refine this.mono (fun _ h => h) (Nat.le_refl _) (Nat.le_refl _) fun r n hR => ⟨n, fun _ h => h, ?_⟩
    obtain ⟨⟨t2, rfl⟩, rfl⟩ := hR
    refine ⟨nx, rfl, hI, ⟨t2, ?_⟩, rfl⟩
    rw [e, hv_snoc]
theorem mem_more {extra rest rest₀ : Led} {x : Addr × Obj} (hs : ∀ p ∈ rest₀, p ∈ rest) (h : x ∈ extra ++ rest₀) : x ∈ extra ++ rest := by
  rcases List.mem_append.mp h with h | h
  · exact List.mem_append_left _ h
  · exact List.mem_append_right _ (hs _ h)
theorem have51 {w : World} {p : Program} {loose : List Str} {mean : ExcName → Option Value} {mg mb : Str → Option Value} {h₀ h : Heap} {L f : Addr} {lam : Obj} {T' : Obj} {ex2 R : Led} {c' : Addr} {oc : Obj} {cell I : Addr} {oc2 oI : Obj} {q : Addr} {oq : Obj} {K : Nat} {C : Prop}
    (_X : (hd.heap_39 w.params).In h₀) (_T : Top p loose mean mg mb h₀) (_N : News h₀ L h ((f, lam) :: (51, T') :: (ex2 ++ (I, oI) :: (cell, oc2) :: R))) (_h : (c', oc) ∈ ex2 ++ R) (_h2 : oc2.data = .cell (some (.ref q))) (_h3 : (q, oq) ∈ R) (_hK : K < 15)
    (h1 : Lam51 w p loose mean mg mb f lam c' oc cell oc2 q oq K) (h2 : (c', oc) ∈ ex2 ++ (I, oI) :: (cell, oc2) :: R → (q, oq) ∈ ex2 ++ (I, oI) :: (cell, oc2) :: R → Lam51 w p loose mean mg mb f lam c' oc cell oc2 q oq K → C) : C :=
  h2 (mem_more (fun p hp => .tail _ (.tail _ hp)) _h) (List.mem_append_right _ (.tail _ (.tail _ _h3))) h1
/-- the loop of _law_image -/
def GInv (N : Nat) (cell : Addr) (Tb : Obj) (rest rest₀ : Led) (i : Nat) (c : Value) (nx : Led) : Prop :=
  (∃ t, c = .int ((imgUp N i : Nat) : Int) t) ∧ ∃ (oc : Obj) (v0 : Option Value) (T' : Obj) (extra : Led), nx = (cell, oc) :: (51, T') :: (extra ++ rest) ∧ oc.data = .cell v0 ∧ LamTab lp51 lq51 T' (extra ++ rest₀) ∧ (∀ q ∈ (51, T') :: (extra ++ rest), q.1 ≠ cell) ∧ (∀ x ∈ extra, ∀ q ∈ (51, Tb) :: rest, q.1 < x.1)
theorem ginv0 {N : Nat} {cell : Addr} {Tb oc : Obj} {rest rest₀ : Led} {v0 : Option Value} {t : Tok} (hd : oc.data = .cell v0) (hT : LamTab lp51 lq51 Tb rest₀) (hc : ∀ q ∈ (51, Tb) :: rest, q.1 ≠ cell) : GInv N cell Tb rest rest₀ 0 (.int 0 t) ((cell, oc) :: (51, Tb) :: rest) :=
  ⟨⟨t, rfl⟩, oc, v0, Tb, [], rfl, hd, hT, hc, fun _ h => nomatch h⟩
theorem low_ne {L : Addr} {l : Led} (h : Low L l) : ∀ q ∈ l, q.1 ≠ L + 1 := fun q hq => Nat.ne_of_lt (Nat.lt_succ_of_lt (h q hq))
/-- what _law_image leaves -/
def Img (Tb : Obj) (rest rest₀ : Led) (N : Nat) (r : Value) (n : Led) : Prop := ∃ t T' extra, r = .int ((img N : Nat) : Int) t ∧ n = (51, T') :: (extra ++ rest) ∧ LamTab lp51 lq51 T' (extra ++ rest₀) ∧ (∀ x ∈ extra, ∀ q ∈ (51, Tb) :: rest, q.1 < x.1)
theorem img_end {h₀ h' : Heap} {L : Addr} {m : Str → Option Value} {rest rest₀ nx : Led} {Tb : Obj} {s : Shared} {Q : Value → Shared → Prop} {tk' N : Nat} {c : Value} {cell : Addr}
    (hret : ∀ r news' h' tk', Fr h₀ L h' m → News h₀ L h' news' → Img Tb rest rest₀ N r news' → Q r { s with heap := h', toks := tk' }) (hN : N < 1048576)
    (F : Fr h₀ L h' m) (N' : News h₀ L h' nx) (hi : GInv N cell Tb rest rest₀ 5 c nx) : Q c { s with heap := h', toks := tk' } := by
  obtain ⟨⟨t, rfl⟩, oc, v0, T', extra, rfl, hd, hT, hc, hx⟩ := hi
  rw [img_up hN]
  exact hret _ ((51, T') :: (extra ++ rest)) h' tk' F (News.sub N' fun _ h => .tail _ h) ⟨t, T', extra, rfl, rfl, hT, hx⟩
theorem up_is (N i : Nat) : ((imgUp N i : Nat) : Int) + 16 ^ (0 + (i : Int) * 1).toNat * ((hv (3 * i) (digs N) : Nat) : Int) = ((imgUp N (i + 1) : Nat) : Int) := by
  rw [show (0 + (i : Int) * 1).toNat = i by omega]
  show _ = ((imgUp N i + 16 ^ i * hv (3 * i) (digs N) : Nat) : Int)
  push_cast; rfl
theorem toNat_at {us : List Value} {v : Nat} {x : Value} (h : us[v]? = some x) : us[(v : Int).toNat]? = some x := by rw [Int.toNat_natCast]; exact h
theorem swap_3 {a b c : Addr × Obj} {rest : Led} : ∀ p ∈ c :: a :: b :: rest, p ∈ a :: b :: c :: rest := by
  intro p hp
  simp only [List.mem_cons] at hp ⊢
  rcases hp with h | h | h | h <;> simp [h]
theorem at_loop3 {vs : List Value} {i : Nat} {v : Value} (h : vs[3 * i]? = some v) : vs[(3 * (0 + (i : Int) * 1)).toNat]? = some v := by
  rw [show (3 * (0 + (i : Int) * 1)).toNat = 3 * i by omega]; exact h
theorem img_turn {h₀ h' : Heap} {L I cell f : Addr} {oI lam : Obj} {m' m₀ : Str → Option Value} {x : Str} {stored : List Str} {rest rest₀ extra ex2 : Led} {Tb T' T2 oc oc0 : Obj} {s : Shared} {Q : Flow → Shared → Prop} {tk' N i : Nat} {v0 : Option Value} {t : Tok} {a : Int} (ha : a = ((imgUp N i : Nat) : Int) + 16 ^ (0 + (i : Int) * 1).toNat * ((hv (3 * i) (digs N) : Nat) : Int))
    (F : Fr h₀ L h' m') (N' : News h₀ L h' ((f, lam) :: (51, T2) :: (ex2 ++ (I, oI) :: (cell, oc) :: (extra ++ rest)))) (hd : oc.data = .cell v0) (hT : LamTab lp51 lq51 T2 (ex2 ++ (extra ++ rest₀)))
    (hc : ∀ q ∈ (51, T') :: (extra ++ rest), q.1 ≠ cell) (hx : ∀ x ∈ extra, ∀ q ∈ (51, Tb) :: rest, q.1 < x.1) (hx2 : ∀ x ∈ ex2, ∀ q ∈ (51, T') :: (I, oI) :: (cell, oc) :: (extra ++ rest), q.1 < x.1)
    (hnI : ∀ p ∈ (cell, oc0) :: (51, T') :: (extra ++ rest), p.1 ≠ I) (hk : m' (Str.ofString "image") = some (.int a t))
    (hr : ∀ z, z ≠ x → z ≠ Str.ofString "image" → stored.contains z = false → m' z = m₀ z) :
    ITurn h₀ L I oI s x (fun c : Value => [(Str.ofString "image", c)]) stored m₀ (fun c nx => GInv N cell Tb rest rest₀ (i + 1) c nx) Q .next { s with heap := h', toks := tk' } := by
  subst ha
  rw [up_is] at hk
  refine iturn_next (.int ((imgUp N (i + 1) : Nat) : Int) t) ((cell, oc) :: (51, T2) :: ((ex2 ++ extra) ++ rest)) F (News.sub N' ?_) ?_ ?_ ?_ ⟨⟨t, rfl⟩, oc, v0, T2, ex2 ++ extra, rfl, hd, by rw [List.append_assoc]; exact hT, ?_, ?_⟩
  · intro p hp
    simp only [List.mem_cons, List.mem_append] at hp ⊢
    rcases hp with h | h | h | (h | h) | h <;> simp [h]
  · intro p hp
    rcases List.mem_cons.mp hp with rfl | hp
    · exact hnI (cell, oc0) (.head _)
    · rcases List.mem_cons.mp hp with rfl | hp
      · exact hnI (51, T') (.tail _ (.head _))
      · rcases List.mem_append.mp hp with h | h
        · rcases List.mem_append.mp h with h | h
          · exact Nat.ne_of_gt (hx2 p h (I, oI) (.tail _ (.head _)))
          · exact hnI p (.tail _ (.tail _ (List.mem_append_left _ h)))
        · exact hnI p (.tail _ (.tail _ (List.mem_append_right _ h)))
  · intro p hp
    rw [List.mem_singleton.mp hp]; exact hk
  · intro z h1 h2 h3
    exact hr z h1 (h2 _ (.head _)) h3
  · intro p hp
    rcases List.mem_cons.mp hp with rfl | hp
    · exact hc (51, T') (.head _)
    · rcases List.mem_append.mp hp with h | h
      · rcases List.mem_append.mp h with h | h
        · exact Nat.ne_of_gt (hx2 p h (cell, oc) (.tail _ (.tail _ (.head _))))
        · exact hc p (.tail _ (List.mem_append_left _ h))
      · exact hc p (.tail _ (List.mem_append_right _ h))
  · intro y hy q hq
    rcases List.mem_append.mp hy with h | h
    · rcases List.mem_cons.mp hq with rfl | hq
      · exact hx2 y h (51, T') (.head _)
      · exact hx2 y h q (.tail _ (.tail _ (.tail _ (List.mem_append_right _ hq))))
    · exact hx y h q hq
section
variable {prog : Program} {w : World} {A : Around} {E : Value → Shared → Prop} {s : Shared}
theorem xor_sub {a b : Nat} {x : Int} {t u : Tok} {Q : Value → Shared → Prop} (hx : x = (b : Int)) (h : Q (.int ((a ^^^ b : Nat) : Int) s.toks) { s with toks := s.toks + 1 }) : wpAny (model prog w) A (binaryOp .BitXor (.int (a : Int) t) (.int x u)) Q E s := by
  subst hx; exact xor_nat h
end
end Mine

-- M3b
namespace Mine
theorem sub65 (c : Nat) : 65 + (c : Int) - 65 = (c : Int) := by omega
theorem ginv1 {N : Nat} {cell : Addr} {Tb oc : Obj} {rest rest₀ : Led} {v0 : Option Value} {t : Tok} (_ : N < 1048576) (hd : oc.data = .cell v0) (hT : LamTab lp51 lq51 Tb rest₀) (hc : ∀ q ∈ (51, Tb) :: rest, q.1 ≠ cell) : GInv N cell Tb rest rest₀ 0 (.int 0 t) ((cell, oc) :: (51, Tb) :: rest) := ginv0 hd hT hc
theorem off51 {I cell : Addr} {oI oc o' T' Tb : Obj} {extra rest : Led} (hnI : ∀ p ∈ (cell, oc) :: (51, T') :: (extra ++ rest), p.1 ≠ I) (hc : ∀ q ∈ (51, T') :: (extra ++ rest), q.1 ≠ cell) (hx : ∀ x ∈ extra, ∀ q ∈ (51, Tb) :: rest, q.1 < x.1) (hP : ∀ q ∈ rest, q.1 ≠ 51) :
    ∀ q ∈ (I, oI) :: (cell, o') :: (extra ++ rest), q.1 ≠ 51 := by
  intro q hq
  rcases List.mem_cons.mp hq with rfl | hq
  · exact Ne.symm (hnI (51, T') (.tail _ (.head _)))
  · rcases List.mem_cons.mp hq with rfl | hq
    · exact Ne.symm (hc (51, T') (.head _))
    · rcases List.mem_append.mp hq with h | h
      · exact Nat.ne_of_gt (hx q h _ (.head _))
      · exact hP q h
local macro_rules | `(tactic| walk_at "use for") => `(tactic| (k_here; (rename Fr _ _ _ _ => lF'); (with_unfolding_all refine' For_invVF lF' ?k1 ?k2 ?_; (case k1 => exact rfl); (case k2 => exact rfl); k_whole)))
local macro_rules | `(tactic| walk_at "exec For Name Call cons nil") => `(tactic| walk_at "use for")
local macro_rules | `(tactic| walk_at "use loop") => `(tactic| (
    k_here
    (rename Fr _ _ _ _ => lF'); (rename News _ _ _ _ => lN')
    with_unfolding_all refine' loop_range (n := 5) (fun c : Value => [(Str.ofString "image", c)]) [] (fun i c nx => GInv _ _ _ _ _ i c nx) (Value.int 0 _) ?hh ?hr ?hsm ?hsz lF' lN' ?hk (ginv1 ?r0 ?r1 ?r2 ?r3) ?turn ?done
    case r0 => assumption
    case r2 => assumption
    case r1 => assumption
    case r3 => exact low_ne (by assumption)
    case hh => with_unfolding_all exact rfl
    case hr => assumption
    case hsm => decide
    case hsz => decide
    case hk => with_unfolding_all exact List.forall_mem_cons.mpr ⟨rfl, List.forall_mem_nil _⟩
    case' turn =>
      intro I i c tc nx u' h' tk' oI hI0 hi hInv hnI F' N'
      clear lF' lN'
      unfold GInv at hInv
      obtain ⟨⟨ti, hci⟩, oc, v0, T', extra, hnx, hdc, hT', hcne, hx⟩ := hInv
      subst hci hnx
      have hIc := Ne.symm (hnI _ List.mem_cons_self)
      have hK : 3 * i < 15 := by omega
      obtain ⟨q, us, mm, hq, hqm, hus⟩ := (by assumption : ∀ k, k < 15 → ∃ (q : Addr) (us : List Value) (mm : Nat), _ ∧ _ ∧ _) (3 * i) hK
      have hq' := at_loop3 hq
      have hqm' := List.mem_append_right extra hqm
      dsimp only at hIc
    case' done =>
      intro c nx u' h' tk' hInv F' N'
      clear lF' lN'))
local macro_rules | `(tactic| walk_at "pyIter ref") => `(tactic| walk_at "use loop")
local macro_rules | `(tactic| k_all) => `(tactic| assumption)
local macro_rules | `(tactic| walk_at "enter lam") => `(tactic| (with_unfolding_all refine' kla_code ?k1 ?k2 ?k3 ?k4 ?k5 ?kA ?kF ?kK ?k6 ?k7 ?k8 ?k9 ?kB ?_ ?c2 ?c3 ?c4 ?c5; (case kA => exact rfl); (case kF => exact rfl); (case kK => assumption); (case k1 => k_asm); (case k2 => k_asm); (case k3 => k_asm); (case k4 => k_asm); (case k5 => k_asm); (case k6 => assumption); (case k7 => exact codeRec_news (by k_asm) (by assumption) (by assumption) (by assumption)); (case k8 => ktr_room); (case k9 => exact rfl); (case c5 => decide); (case kB => exact locs rfl); (case c2 => exact rfl); (case c3 => exact rfl); (case c4 => exact rfl); k_whole; intro g' L' h' FG' F' N' B' X' T'; (try dsimp only); (try k_lift B'); (try k_fold)))
local macro_rules | `(tactic| walk_at "use int2ap") => `(tactic| (k_here; with_unfolding_all refine' FnSpec.use (int2ap_to _ _ _ _ ?km ?kn) ?k1 ?k2 ?k3 ?k4 ?k5 ?kK ?kd ?ku ?_; (case km => assumption); (case kn => exact Nat.lt_trans (by assumption) (by decide)); (case k1 => k_asm); (case k2 => k_asm); (case k3 => k_asm); (case k4 => k_asm); (case k5 => k_asm); (case kK => first | exact rfl | assumption); (case kd => ktr_room); (case ku => ktr_units)))
local macro_rules | `(tactic| walk_at "use red51") => `(tactic| (k_here; with_unfolding_all refine' FnSpec.use (red51 ?hl _ _ _ ?hK ?h1 ?h2 ?h3 ?h4) ?k1 ?k2 ?k3 ?k4 ?k5 ?kK ?kd ?ku ?_; (case k4 => k_asm); (case k1 => k_asm); (case k2 => k_asm); (case k3 => k_asm); (case k5 => k_asm); (case kK => first | exact rfl | assumption); (case kd => ktr_room); (case ku => ktr_units); (case hl => assumption); (case hK => assumption); (case h1 => (repeat (first | assumption | exact List.mem_cons_self | exact List.mem_append_right _ List.mem_cons_self | exact List.mem_append_right _ (by assumption) | refine List.mem_cons_of_mem _ ?_))); (case h2 => (repeat (first | assumption | exact List.mem_cons_self | exact List.mem_append_right _ List.mem_cons_self | exact List.mem_append_right _ (by assumption) | refine List.mem_cons_of_mem _ ?_))); (case h3 => exact List.mem_cons_of_mem _ (List.mem_cons_of_mem _ (List.mem_append_right _ (List.mem_cons_of_mem _ List.mem_cons_self)))); (case h4 => (repeat (first | assumption | exact List.mem_cons_self | exact List.mem_append_right _ List.mem_cons_self | exact List.mem_append_right _ (by assumption) | refine List.mem_cons_of_mem _ ?_)))))
local macro_rules | `(tactic| walk_at "eval Name") => `(tactic| (k_here; k_dflt (refine' nameX_F ?N ?c ?m ?d ?_ ?a ?b; (case a => rfl); (case b => rfl); (case N => k_asm); (case c => rfl); (case m => assumption); (case d => assumption); k_whole)))
set_option maxRecDepth 100000 in
set_option maxHeartbeats 8000000 in
theorem image_spec {w : World} {p : Program} {loose : List Str} {mean : ExcName → Option Value} {mg mb : Str → Option Value} (rest rest₀ : Led) (Tb : Obj) (hP : ∀ q ∈ rest, q.1 ≠ 51) (hs₀ : ∀ p ∈ rest₀, p ∈ rest) (hT : LamTab lp51 lq51 Tb rest₀) (R : Addr) (hR : RowsAt R 15 rest) (n : Int) (N : Nat) (tn : Tok) (hnN : n.natAbs = N) (hN : N < 1048576) :
  FnSpec Challenge.rw_nq0005_03.row.prog w (hd.heap_39 w.params) p loose mean mg mb (.ref 56) [.ref R, .int n tn] 3 32 ((51, Tb) :: rest) (Img Tb rest rest₀ N) := by
  obtain ⟨vs, nn, hR1, hR2, hR3⟩ := hR
  k_fill
  intro dp un gd cn cs a ccd cl outer A₀ base h₀ L m s Q E B F X N T hk hd' hu hret
  refine wpAny_call ?_
  k_dflt ((refine' code_defC ?k1 ?k2 ?k3 ?k4 ?k5 ?kA ?kF ?kK ?k6 ?k7 ?k8 ?k9 ?kB ?kD ?_ ?c2 ?c3 ?c4; (case kA => exact rfl); (case kF => exact rfl); (case kK => assumption); (case k1 => k_asm); (case k2 => k_asm); (case k3 => k_asm); (case k4 => k_asm); (case k5 => k_asm); (case k6 => k_is); (case k7 => k_is); (case k8 => ktr_room); (case k9 => exact BindsTo.of_eq rfl); (case kB => exact rfl); (case kD => decide +kernel); (case c2 => exact rfl); (case c3 => exact rfl); (case c4 => exact rfl); k_whole; intro g' L' h' tk' cells' FG' F' N' Y' B' X' T' l1; have l0' := Mine.Low.of l1; (try k_lt l1); k_cells Y'; (try simp only [List.cons_append, List.nil_append] at N'); (try dsimp only); (try k_lift B'); (try k_fold)))
  k_with_none
  k_with "eval Lambda" => (
    k_here; (with_reducible rename Fr _ _ _ _ => F'); (with_reducible rename News _ _ _ _ => N')
    with_unfolding_all refine' lam_any F' (News.sub N' swap_3) ?T ?C ?cd ?hP ?hs ?hT ?hdef ?hcl ?_
    case T => k_asm
    case cd => exact rfl
    case C => exact ⟨_, _, _, _, _, _, _, _, _, (by assumption : Frag.In _ _) 55 _ rfl, rfl, rfl, rfl, rfl, rfl, rfl, rfl, rfl, by decide⟩
    case hP => exact off51 (by assumption) (by assumption) (by assumption) hP
    case hT => assumption
    case hs => exact fun q hq => List.mem_cons_of_mem _ (List.mem_cons_of_mem _ (mem_more hs₀ hq))
    case hdef => exact rfl
    case hcl => exact rfl
    intro f' c' oc' vs' t' ctv' T' extra' h' tk' F' N' hx' hf' hlt' hTb' hc' hd1' hd2'
    (rename Top _ _ _ _ _ _ => lT'); (rename Frag.In _ _ => lX')
    refine have51 lX' lT' N' (mem_more (fun q hq => mem_more hs₀ hq) hc') (by assumption) (by assumption) (by assumption) ?lam ?rest
    case' lam =>
      unfold Lam51 FnSpec
      intro nx v c tv tk hm1 hm2 hm3 hm4 hv hc
      obtain ⟨u2, e2⟩ := ints_at (by assumption) hv
      have e2' := toNat_at e2
      clear F' N' hret B F X N T
      intro dp un gd cn cs a ccd cl outer A₀ base h₀ L m s Q E B F X N T hk hd' hu hret
      refine wpAny_call ?_
      walk_at "enter lam"
    case' rest =>
      intro hc2' hq2' hlam)
  k_with "subscriptTail Name BinOp" => (k_here; refine item_list (by k_asm) (by (repeat (first | assumption | exact List.mem_cons_self | exact List.mem_append_right _ List.mem_cons_self | exact List.mem_append_right _ (by assumption) | refine List.mem_cons_of_mem _ ?_))) (by omega) (by omega) (by assumption) ?_)
  k_with "subscriptTail Name Name" => (k_here; refine item_list (by k_asm) (by (repeat (first | assumption | exact List.mem_cons_self | exact List.mem_append_right _ List.mem_cons_self | exact List.mem_append_right _ (by assumption) | refine List.mem_cons_of_mem _ ?_))) (by omega) (by omega) (by assumption) ?_)
  k_with "binaryOp Mult int int" => (k_here; refine mul_pwl (by omega) ?_)
  k_with "binaryOp BitXor int int" => (k_here; refine xor_sub (sub65 _) ?_)
  k_with "call ref" => ((with_reducible show wpAny _ _ (call (Value.ref 30) _) _ _ _); (
      walk_at "use int2ap"
      intro r' n' h' tk' F' N' hR'
      obtain ⟨⟨t', rfl⟩, rfl⟩ := hR'))
  k_with "call ref" => ((with_reducible show wpAny _ _ (call (Value.ref 23) _) _ _ _); (
      walk_at "use red51"
      intro r' n' h' tk' F' N' hR'
      obtain ⟨⟨t', rfl⟩, rfl⟩ := hR'))
  k_steps
  · exact img_end hret (by assumption) (by k_asm) (by assumption) (by assumption)
  rotate_left
  · exact hret _ _ _ _ (by k_asm) (by k_asm) ⟨⟨_, rfl⟩, rfl⟩
  · refine' img_turn rfl (by assumption) (by assumption) (by assumption) (by assumption) (by assumption) (by assumption) (by assumption) (by assumption) ?hk ?hr
    case hk => exact rfl
    case hr =>
      intro z h1 h2 h3
      simp [kstB, h1, h2]
end Mine

-- C3r
namespace Mine
def rgsF (f x : Nat → Nat → Nat) (l k : List Nat) : Nat → List Nat
  | 0 => [0, 0, 0, 0, 0]
  | t + 1 => (rgsF f x l k t).set ((t / 5 + t % 5) % 5) (x ((rgsF f x l k t).getD ((t / 5 + t % 5) % 5) 0) (f (l.getD (t / 5) 0) (k.getD (t % 5) 0)))
theorem rgsF_end (f x : Nat → Nat → Nat) (a b c d e a' b' c' d' e' : Nat) : rgsF f x [a, b, c, d, e] [a', b', c', d', e'] 25 =
  [x (x (x (x (x 0 (f a a')) (f b e')) (f c d')) (f d c')) (f e b'), x (x (x (x (x 0 (f a b')) (f b a')) (f c e')) (f d d')) (f e c'), x (x (x (x (x 0 (f a c')) (f b b')) (f c a')) (f d e')) (f e d'), x (x (x (x (x 0 (f a d')) (f b c')) (f c b')) (f d a')) (f e e'), x (x (x (x (x 0 (f a e')) (f b d')) (f c c')) (f d b')) (f e a')] := by
  have e0 : rgsF f x [a, b, c, d, e] [a', b', c', d', e'] 0 = [0, 0, 0, 0, 0] := rfl
  have e1 : rgsF f x [a, b, c, d, e] [a', b', c', d', e'] 1 = [x 0 (f a a'), 0, 0, 0, 0] := by rw [rgsF, e0]; rfl
  have e2 : rgsF f x [a, b, c, d, e] [a', b', c', d', e'] 2 = [x 0 (f a a'), x 0 (f a b'), 0, 0, 0] := by rw [rgsF, e1]; rfl
  have e3 : rgsF f x [a, b, c, d, e] [a', b', c', d', e'] 3 = [x 0 (f a a'), x 0 (f a b'), x 0 (f a c'), 0, 0] := by rw [rgsF, e2]; rfl
  have e4 : rgsF f x [a, b, c, d, e] [a', b', c', d', e'] 4 = [x 0 (f a a'), x 0 (f a b'), x 0 (f a c'), x 0 (f a d'), 0] := by rw [rgsF, e3]; rfl
  have e5 : rgsF f x [a, b, c, d, e] [a', b', c', d', e'] 5 = [x 0 (f a a'), x 0 (f a b'), x 0 (f a c'), x 0 (f a d'), x 0 (f a e')] := by rw [rgsF, e4]; rfl
  have e6 : rgsF f x [a, b, c, d, e] [a', b', c', d', e'] 6 = [x 0 (f a a'), x (x 0 (f a b')) (f b a'), x 0 (f a c'), x 0 (f a d'), x 0 (f a e')] := by rw [rgsF, e5]; rfl
  have e7 : rgsF f x [a, b, c, d, e] [a', b', c', d', e'] 7 = [x 0 (f a a'), x (x 0 (f a b')) (f b a'), x (x 0 (f a c')) (f b b'), x 0 (f a d'), x 0 (f a e')] := by rw [rgsF, e6]; rfl
  have e8 : rgsF f x [a, b, c, d, e] [a', b', c', d', e'] 8 = [x 0 (f a a'), x (x 0 (f a b')) (f b a'), x (x 0 (f a c')) (f b b'), x (x 0 (f a d')) (f b c'), x 0 (f a e')] := by rw [rgsF, e7]; rfl
  have e9 : rgsF f x [a, b, c, d, e] [a', b', c', d', e'] 9 = [x 0 (f a a'), x (x 0 (f a b')) (f b a'), x (x 0 (f a c')) (f b b'), x (x 0 (f a d')) (f b c'), x (x 0 (f a e')) (f b d')] := by rw [rgsF, e8]; rfl
  have e10 : rgsF f x [a, b, c, d, e] [a', b', c', d', e'] 10 = [x (x 0 (f a a')) (f b e'), x (x 0 (f a b')) (f b a'), x (x 0 (f a c')) (f b b'), x (x 0 (f a d')) (f b c'), x (x 0 (f a e')) (f b d')] := by rw [rgsF, e9]; rfl
  have e11 : rgsF f x [a, b, c, d, e] [a', b', c', d', e'] 11 = [x (x 0 (f a a')) (f b e'), x (x 0 (f a b')) (f b a'), x (x (x 0 (f a c')) (f b b')) (f c a'), x (x 0 (f a d')) (f b c'), x (x 0 (f a e')) (f b d')] := by rw [rgsF, e10]; rfl
  have e12 : rgsF f x [a, b, c, d, e] [a', b', c', d', e'] 12 = [x (x 0 (f a a')) (f b e'), x (x 0 (f a b')) (f b a'), x (x (x 0 (f a c')) (f b b')) (f c a'), x (x (x 0 (f a d')) (f b c')) (f c b'), x (x 0 (f a e')) (f b d')] := by rw [rgsF, e11]; rfl
  have e13 : rgsF f x [a, b, c, d, e] [a', b', c', d', e'] 13 = [x (x 0 (f a a')) (f b e'), x (x 0 (f a b')) (f b a'), x (x (x 0 (f a c')) (f b b')) (f c a'), x (x (x 0 (f a d')) (f b c')) (f c b'), x (x (x 0 (f a e')) (f b d')) (f c c')] := by rw [rgsF, e12]; rfl
  have e14 : rgsF f x [a, b, c, d, e] [a', b', c', d', e'] 14 = [x (x (x 0 (f a a')) (f b e')) (f c d'), x (x 0 (f a b')) (f b a'), x (x (x 0 (f a c')) (f b b')) (f c a'), x (x (x 0 (f a d')) (f b c')) (f c b'), x (x (x 0 (f a e')) (f b d')) (f c c')] := by rw [rgsF, e13]; rfl
  have e15 : rgsF f x [a, b, c, d, e] [a', b', c', d', e'] 15 = [x (x (x 0 (f a a')) (f b e')) (f c d'), x (x (x 0 (f a b')) (f b a')) (f c e'), x (x (x 0 (f a c')) (f b b')) (f c a'), x (x (x 0 (f a d')) (f b c')) (f c b'), x (x (x 0 (f a e')) (f b d')) (f c c')] := by rw [rgsF, e14]; rfl
  have e16 : rgsF f x [a, b, c, d, e] [a', b', c', d', e'] 16 = [x (x (x 0 (f a a')) (f b e')) (f c d'), x (x (x 0 (f a b')) (f b a')) (f c e'), x (x (x 0 (f a c')) (f b b')) (f c a'), x (x (x (x 0 (f a d')) (f b c')) (f c b')) (f d a'), x (x (x 0 (f a e')) (f b d')) (f c c')] := by rw [rgsF, e15]; rfl
  have e17 : rgsF f x [a, b, c, d, e] [a', b', c', d', e'] 17 = [x (x (x 0 (f a a')) (f b e')) (f c d'), x (x (x 0 (f a b')) (f b a')) (f c e'), x (x (x 0 (f a c')) (f b b')) (f c a'), x (x (x (x 0 (f a d')) (f b c')) (f c b')) (f d a'), x (x (x (x 0 (f a e')) (f b d')) (f c c')) (f d b')] := by rw [rgsF, e16]; rfl
  have e18 : rgsF f x [a, b, c, d, e] [a', b', c', d', e'] 18 = [x (x (x (x 0 (f a a')) (f b e')) (f c d')) (f d c'), x (x (x 0 (f a b')) (f b a')) (f c e'), x (x (x 0 (f a c')) (f b b')) (f c a'), x (x (x (x 0 (f a d')) (f b c')) (f c b')) (f d a'), x (x (x (x 0 (f a e')) (f b d')) (f c c')) (f d b')] := by rw [rgsF, e17]; rfl
  have e19 : rgsF f x [a, b, c, d, e] [a', b', c', d', e'] 19 = [x (x (x (x 0 (f a a')) (f b e')) (f c d')) (f d c'), x (x (x (x 0 (f a b')) (f b a')) (f c e')) (f d d'), x (x (x 0 (f a c')) (f b b')) (f c a'), x (x (x (x 0 (f a d')) (f b c')) (f c b')) (f d a'), x (x (x (x 0 (f a e')) (f b d')) (f c c')) (f d b')] := by rw [rgsF, e18]; rfl
  have e20 : rgsF f x [a, b, c, d, e] [a', b', c', d', e'] 20 = [x (x (x (x 0 (f a a')) (f b e')) (f c d')) (f d c'), x (x (x (x 0 (f a b')) (f b a')) (f c e')) (f d d'), x (x (x (x 0 (f a c')) (f b b')) (f c a')) (f d e'), x (x (x (x 0 (f a d')) (f b c')) (f c b')) (f d a'), x (x (x (x 0 (f a e')) (f b d')) (f c c')) (f d b')] := by rw [rgsF, e19]; rfl
  have e21 : rgsF f x [a, b, c, d, e] [a', b', c', d', e'] 21 = [x (x (x (x 0 (f a a')) (f b e')) (f c d')) (f d c'), x (x (x (x 0 (f a b')) (f b a')) (f c e')) (f d d'), x (x (x (x 0 (f a c')) (f b b')) (f c a')) (f d e'), x (x (x (x 0 (f a d')) (f b c')) (f c b')) (f d a'), x (x (x (x (x 0 (f a e')) (f b d')) (f c c')) (f d b')) (f e a')] := by rw [rgsF, e20]; rfl
  have e22 : rgsF f x [a, b, c, d, e] [a', b', c', d', e'] 22 = [x (x (x (x (x 0 (f a a')) (f b e')) (f c d')) (f d c')) (f e b'), x (x (x (x 0 (f a b')) (f b a')) (f c e')) (f d d'), x (x (x (x 0 (f a c')) (f b b')) (f c a')) (f d e'), x (x (x (x 0 (f a d')) (f b c')) (f c b')) (f d a'), x (x (x (x (x 0 (f a e')) (f b d')) (f c c')) (f d b')) (f e a')] := by rw [rgsF, e21]; rfl
  have e23 : rgsF f x [a, b, c, d, e] [a', b', c', d', e'] 23 = [x (x (x (x (x 0 (f a a')) (f b e')) (f c d')) (f d c')) (f e b'), x (x (x (x (x 0 (f a b')) (f b a')) (f c e')) (f d d')) (f e c'), x (x (x (x 0 (f a c')) (f b b')) (f c a')) (f d e'), x (x (x (x 0 (f a d')) (f b c')) (f c b')) (f d a'), x (x (x (x (x 0 (f a e')) (f b d')) (f c c')) (f d b')) (f e a')] := by rw [rgsF, e22]; rfl
  have e24 : rgsF f x [a, b, c, d, e] [a', b', c', d', e'] 24 = [x (x (x (x (x 0 (f a a')) (f b e')) (f c d')) (f d c')) (f e b'), x (x (x (x (x 0 (f a b')) (f b a')) (f c e')) (f d d')) (f e c'), x (x (x (x (x 0 (f a c')) (f b b')) (f c a')) (f d e')) (f e d'), x (x (x (x 0 (f a d')) (f b c')) (f c b')) (f d a'), x (x (x (x (x 0 (f a e')) (f b d')) (f c c')) (f d b')) (f e a')] := by rw [rgsF, e23]; rfl
  have e25 : rgsF f x [a, b, c, d, e] [a', b', c', d', e'] 25 = [x (x (x (x (x 0 (f a a')) (f b e')) (f c d')) (f d c')) (f e b'), x (x (x (x (x 0 (f a b')) (f b a')) (f c e')) (f d d')) (f e c'), x (x (x (x (x 0 (f a c')) (f b b')) (f c a')) (f d e')) (f e d'), x (x (x (x (x 0 (f a d')) (f b c')) (f c b')) (f d a')) (f e e'), x (x (x (x (x 0 (f a e')) (f b d')) (f c c')) (f d b')) (f e a')] := by rw [rgsF, e24]; rfl
  exact e25
def rgs (v w : V) (t : Nat) : List Nat := rgsF gm (fun a b => a ^^^ b) v.l w.l t
theorem rgs_succ (v w : V) (t : Nat) : rgs v w (t + 1) = (rgs v w t).set ((t / 5 + t % 5) % 5) ((rgs v w t).getD ((t / 5 + t % 5) % 5) 0 ^^^ gm (v.l.getD (t / 5) 0) (w.l.getD (t % 5) 0)) := rfl
theorem rgs_end (v w : V) : rgs v w 25 = (ring v w).l := by
  unfold rgs
  show rgsF gm (fun a b => a ^^^ b) [v.a, v.b, v.c, v.d, v.e] [w.a, w.b, w.c, w.d, w.e] 25 = _
  rw [rgsF_end]
  simp only [Nat.zero_xor]
  rfl
theorem rgs_len (v w : V) : ∀ t, (rgs v w t).length = 5
  | 0 => rfl
  | t + 1 => by rw [rgs_succ, List.length_set]; exact rgs_len v w t
theorem rgs_step (v w : V) {i j : Nat} (hj : j < 5) : rgs v w (5 * i + (j + 1)) = (rgs v w (5 * i + j)).set ((i + j) % 5) ((rgs v w (5 * i + j)).getD ((i + j) % 5) 0 ^^^ gm (v.l.getD i 0) (w.l.getD j 0)) := by
  show rgs v w (5 * i + j + 1) = _
  rw [rgs_succ, show (5 * i + j) / 5 = i by omega, show (5 * i + j) % 5 = j by omega]
def ci (l : List Nat) : List Int := l.map fun x : Nat => (x : Int)
def RGInv (v w : V) (M : Addr) (hd tl : Led) (t : Nat) (nx : Led) : Prop := ∃ ms : List Value, nx = hd ++ (M, listOf ms.toArray 0) :: tl ∧ IntsAre ms (ci (rgs v w t))
theorem rg0 {v w : V} {M : Addr} {tl : Led} {ms as bs' : List Value} (hm : IntsAre ms [0, 0, 0, 0, 0]) (_ : ∀ i, i < 5 → 0 < 1 → ∃ t, as[i]? = some (.int ((v.l.getD i 0 : Nat) : Int) t)) (_ : ∀ j, j < 5 → ∃ t, bs'[j]? = some (.int ((w.l.getD j 0 : Nat) : Int) t)) : RGInv v w M [] tl (5 * 0) ((M, listOf ms.toArray 0) :: tl) := ⟨ms, rfl, hm⟩
theorem rgin {v w : V} {M I : Addr} {oI : Obj} {tl : Led} {ms : List Value} {i : Nat} (hm : IntsAre ms (ci (rgs v w (5 * i)))) (_ : i < 5) : RGInv v w M [(I, oI)] tl (5 * i + 0) ((I, oI) :: (M, listOf ms.toArray 0) :: tl) := ⟨ms, rfl, hm⟩
theorem ci_get {vs : List Value} {l : List Nat} {i : Nat} (h : IntsAre vs (ci l)) (hi : i < l.length) : ∃ t, vs[i]? = some (.int ((l.getD i 0 : Nat) : Int) t) := by
  refine h.get i _ ?_
  simp [ci, List.getElem?_eq_getElem hi]
theorem vl_lt {v : V} (h : v.ok) (i : Nat) : v.l.getD i 0 < 16 := by
  obtain ⟨h1, h2, h3, h4, h5⟩ := h
  match i with
  | 0 => exact h1
  | 1 => exact h2
  | 2 => exact h3
  | 3 => exact h4
  | 4 => exact h5
  | n + 5 => simp [V.l]
section
variable {prog : Program} {w : World} {A : Around} {E : Value → Shared → Prop} {s : Shared}
theorem mod_5 {i j : Nat} {t u : Tok} {Q : Value → Shared → Prop} (h : Q (.int (((i + j) % 5 : Nat) : Int) s.toks) { s with toks := s.toks + 1 }) : wpAny (model prog w) A (binaryOp .Mod (.int (0 + (i : Int) * 1 + (0 + (j : Int) * 1)) t) (.int 5 u)) Q E s := by
  refine mod_int' (by decide) ?_
  rw [show (0 + (i : Int) * 1 + (0 + (j : Int) * 1)).fmod 5 = (((i + j) % 5 : Nat) : Int) by rw [Int.fmod_eq_emod_of_nonneg _ (by decide)]; omega]
  exact h
end
theorem ring_inner {v w : V} {h₀ h' : Heap} {L M I J : Addr} {oI oJ : Obj} {m' m₀ : Str → Option Value} {x : Str} {stored : List Str} {tl : Led} {s : Shared} {Q : Flow → Shared → Prop} {tk' : Nat} {ms : List Value} {i j : Nat} {tc : Tok}
    (F : Fr h₀ L h' m') (N : News h₀ L h' ((J, oJ) :: (I, oI) :: (M, listOf (ms.set ((((i + j) % 5 : Nat) : Int).toNat) (.int (((rgs v w (5 * i + j)).getD ((i + j) % 5) 0 ^^^ gm (v.l.getD i 0) (w.l.getD j 0) : Nat) : Int) tc)).toArray 0) :: tl)) (hj : j < 5) (hms : IntsAre ms (ci (rgs v w (5 * i + j)))) (hnJ : ∀ p ∈ [(I, oI)] ++ (M, listOf ms.toArray 0) :: tl, p.1 ≠ J)
    (hr : ∀ z, z ≠ x → (∀ p ∈ ([] : List (Str × Value)), z ≠ p.1) → stored.contains z = false → m' z = m₀ z) :
    ITurn h₀ L J oJ s x (fun _ : Unit => []) stored m₀ (fun _ nx => RGInv v w M [(I, oI)] tl (5 * i + (j + 1)) nx) Q .next { s with heap := h', toks := tk' } := by
  refine iturn_next () ([(I, oI)] ++ (M, listOf (ms.set ((((i + j) % 5 : Nat) : Int).toNat) (.int (((rgs v w (5 * i + j)).getD ((i + j) % 5) 0 ^^^ gm (v.l.getD i 0) (w.l.getD j 0) : Nat) : Int) tc)).toArray 0) :: tl) F N ?_ (fun _ h => nomatch h) hr ⟨_, rfl, ?_⟩
  · intro p hp
    rcases List.mem_cons.mp hp with rfl | hp
    · exact hnJ (I, oI) (.head _)
    · rcases List.mem_cons.mp hp with rfl | hp
      · exact hnJ (M, listOf ms.toArray 0) (.tail _ (.head _))
      · exact hnJ p (.tail _ (.tail _ hp))
  · rw [rgs_step v w hj, Int.toNat_natCast]
    have := ints_set (x := (((rgs v w (5 * i + j)).getD ((i + j) % 5) 0 ^^^ gm (v.l.getD i 0) (w.l.getD j 0) : Nat) : Int)) (t := tc) ((i + j) % 5) hms
    simpa [ci, List.map_set] using this
theorem ring_outer {v w : V} {h₀ h' : Heap} {L M I : Addr} {oI : Obj} {m' m₀ : Str → Option Value} {x : Str} {stored : List Str} {tl nx : Led} {s : Shared} {Q : Flow → Shared → Prop} {tk' : Nat} {ms0 : List Value} {i : Nat}
    (F : Fr h₀ L h' m') (N : News h₀ L h' nx) (hi : RGInv v w M [(I, oI)] tl (5 * i + 5) nx) (hnI : ∀ p ∈ [] ++ (M, listOf ms0.toArray 0) :: tl, p.1 ≠ I)
    (hr : ∀ z, z ≠ x → (∀ p ∈ ([] : List (Str × Value)), z ≠ p.1) → stored.contains z = false → m' z = m₀ z) :
    ITurn h₀ L I oI s x (fun _ : Unit => []) stored m₀ (fun _ nx => RGInv v w M [] tl (5 * (i + 1)) nx) Q .next { s with heap := h', toks := tk' } := by
  obtain ⟨ms, rfl, hms⟩ := hi
  refine iturn_next () ((M, listOf ms.toArray 0) :: tl) F N ?_ (fun _ h => nomatch h) hr ⟨ms, rfl, by rw [show 5 * (i + 1) = 5 * i + 5 by omega]; exact hms⟩
  intro p hp
  rcases List.mem_cons.mp hp with rfl | hp
  · exact hnI (M, listOf ms0.toArray 0) (.head _)
  · exact hnI p (.tail _ hp)
theorem ring_end {v w : V} {h₀ h' : Heap} {L M : Addr} {m : Str → Option Value} {news nx : Led} {s : Shared} {Q : Value → Shared → Prop} {tk' : Nat}
    (hret : ∀ r news' h' tk', Fr h₀ L h' m → News h₀ L h' news' → (∃ D vs nn, r = .ref D ∧ news' = (D, listOf vs.toArray nn) :: news ∧ IntsAre vs (ci (ring v w).l) ∧ ∀ q ∈ news, q.1 ≠ D) → Q r { s with heap := h', toks := tk' })
    (F : Fr h₀ L h' m) (N : News h₀ L h' nx) (hi : RGInv v w M [] news (5 * 5) nx) (hne : ∀ q ∈ news, q.1 < M) : Q (.ref M) { s with heap := h', toks := tk' } := by
  obtain ⟨ms, rfl, hms⟩ := hi
  exact hret _ ((M, listOf ms.toArray 0) :: news) h' tk' F N ⟨M, ms, 0, rfl, rfl, rgs_end v w ▸ hms, fun q hq => Nat.ne_of_lt (hne q hq)⟩
end Mine

-- C3s
namespace Mine
theorem lt_one {d : Addr} {news : Led} (h : ∀ p ∈ news, p.1 < d) : ∀ q ∈ news, q.1 ≠ d := fun q hq => Nat.ne_of_lt (h q hq)
theorem ints0 {t1 t2 t3 t4 t5 : Tok} : IntsAre [Value.int 0 t1, .int 0 t2, .int 0 t3, .int 0 t4, .int 0 t5] [0, 0, 0, 0, 0] := .cons _ _ (.cons _ _ (.cons _ _ (.cons _ _ (.cons _ _ .nil))))
theorem at_mod {ms : List Value} {k : Nat} {x : Value} (h : ms[k]? = some x) : ms[((k : Nat) : Int).toNat]? = some x := by rw [Int.toNat_natCast]; exact h
theorem ms_len {ms : List Value} {v w : V} {t k : Nat} (h : IntsAre ms (ci (rgs v w t))) : ((((k % 5 : Nat) : Int)).toNat) < ms.length := by
  have := h.length
  rw [show (ci (rgs v w t)).length = 5 by simp [ci, rgs_len]] at this
  omega
theorem rgs_lt (v w : V) (t k : Nat) : k % 5 < (rgs v w t).length := by rw [rgs_len]; omega
local macro_rules | `(tactic| walk_at "use for") => `(tactic| (k_here; (rename Fr _ _ _ _ => lF'); (with_unfolding_all refine' For_invVF lF' ?k1 ?k2 ?_; (case k1 => exact rfl); (case k2 => exact rfl); k_whole)))
local macro_rules | `(tactic| walk_at "exec For Name Call cons nil") => `(tactic| walk_at "use for")
local macro_rules | `(tactic| walk_at "no such key") => `(tactic| fail "none")
local macro_rules | `(tactic| walk_at "use inner") => `(tactic| (
    k_here
    (rename Fr _ _ _ _ => lF'); (rename News _ _ _ _ => lN')
    with_unfolding_all refine' loop_range (n := 5) (fun _ : Unit => []) [Str.ofString "place"] (fun j _ nx => RGInv _ _ _ _ _ (5 * _ + j) nx) () ?hh ?hr ?hsm ?hsz lF' lN' ?hk (rgin ?r1 ?r2) ?turn ?done
    case r1 => assumption
    case r2 => assumption
    case hh => with_unfolding_all exact rfl
    case hr => assumption
    case hsm => decide
    case hsz => decide
    case hk => exact List.forall_mem_nil _
    case' turn =>
      intro J j st tc nx u' h' tk' oJ hJ0 hj hInv hnJ F' N'
      clear lF' lN'
      unfold RGInv at hInv
      obtain ⟨ms, hnx, hms⟩ := hInv
      subst hnx
      have hJI := Ne.symm (hnJ _ List.mem_cons_self)
      have hJM := Ne.symm (hnJ _ (List.mem_cons_of_mem _ List.mem_cons_self))
      obtain ⟨u1, e1⟩ := ci_get hms (rgs_lt _ _ _ (_ + j))
      have e1' := at_mod e1
      obtain ⟨u3, e3⟩ := (by assumption : ∀ j, j < 5 → ∃ t, _ = some (Value.int _ t)) j hj
      have e3' := at_loop e3
      dsimp only [List.cons_append, List.nil_append] at N'
    case' done =>
      intro st nx u' h' tk' hInv F' N'
      clear lF' lN'))
local macro_rules | `(tactic| walk_at "use outer") => `(tactic| (
    k_here
    (rename Fr _ _ _ _ => lF'); (rename News _ _ _ _ => lN')
    with_unfolding_all refine' loop_range (n := 5) (fun _ : Unit => []) [Str.ofString "j", Str.ofString "place"] (fun i _ nx => RGInv _ _ _ _ _ (5 * i) nx) () ?hh ?hr ?hsm ?hsz lF' lN' ?hk (rg0 ints0 ?r1 ?r2) ?turn ?done
    case r1 => assumption
    case r2 => assumption
    case hh => with_unfolding_all exact rfl
    case hr => assumption
    case hsm => decide
    case hsz => decide
    case hk => exact List.forall_mem_nil _
    case' turn =>
      intro I i st tc nx u' h' tk' oI hI0 hi hInv hnI F' N'
      clear lF' lN'
      unfold RGInv at hInv
      obtain ⟨ms, hnx, hms⟩ := hInv
      subst hnx
      have hIM := Ne.symm (hnI _ List.mem_cons_self)
      obtain ⟨u2, e2⟩ := (by assumption : ∀ i, i < 5 → 0 < 1 → ∃ t, _ = some (Value.int _ t)) i hi (by decide)
      have e2' := at_loop e2
      dsimp only [List.nil_append] at N'
    case' done =>
      intro st nx u' h' tk' hInv F' N'
      clear lF' lN'))
local macro_rules | `(tactic| walk_at "pyIter ref") => `(tactic| first | walk_at "use inner" | walk_at "use outer")
local macro_rules | `(tactic| walk_at "use set") => `(tactic| (k_here; refine' set_led ?hF ?hN ?h0 ?h1 ?h2 (Upd.tail ?d1 (Upd.tail ?d2 (Upd.head ?d3))) ?_; (case hF => k_asm); (case hN => k_asm); (case h0 => exact Int.natCast_nonneg _); (case h1 => omega); (case h2 => exact ms_len (by assumption)); (case d1 => assumption); (case d2 => assumption); (case d3 => exact lt_one (by assumption)); intro h' F' N'))
local macro_rules | `(tactic| walk_at "setItem ref int") => `(tactic| walk_at "use set")
local macro_rules | `(tactic| walk_at "use times") => `(tactic| (k_here; with_unfolding_all refine' FnSpec.use (times_spec _ _ _ _ _ _ _ ?h1 ?h2 ?h3 ?h4) ?k1 ?k2 ?k3 ?k4 ?k5 ?kK ?kd ?ku ?_; (case h1 => exact vl_lt (by assumption) _); (case h2 => exact vl_lt (by assumption) _); (case k4 => k_asm); (case h3 => exact RowsAt.mono (by assumption) fun p hp => List.mem_cons_of_mem _ (List.mem_cons_of_mem _ (List.mem_cons_of_mem _ hp))); (case h4 => exact TabAt.mono (by assumption) fun p hp => List.mem_cons_of_mem _ (List.mem_cons_of_mem _ (List.mem_cons_of_mem _ hp))); (case k1 => k_asm); (case k2 => k_asm); (case k3 => k_asm); (case k5 => k_asm); (case kK => first | exact rfl | assumption); (case kd => ktr_room); (case ku => ktr_units)))
set_option maxRecDepth 100000 in
set_option maxHeartbeats 8000000 in
theorem ring_spec {w : World} {p : Program} {loose : List Str} {mean : ExcName → Option Value} {mg mb : Str → Option Value} (news : Led) (R T Da Db : Addr) (v u : V) (hv : v.ok) (hu : u.ok) (hR : RowsAt R 15 news) (hT : TabAt T lgs news) (hA : TabAt Da (ci v.l) news) (hB : TabAt Db (ci u.l) news) :
  FnSpec Challenge.rw_nq0005_03.row.prog w (hd.heap_39 w.params) p loose mean mg mb (.ref 73) [.ref R, .ref T, .ref Da, .ref Db] 2 16 news (fun r n' => ∃ D vs nn, r = .ref D ∧ n' = (D, listOf vs.toArray nn) :: news ∧ IntsAre vs (ci (ring v u).l) ∧ ∀ q ∈ news, q.1 ≠ D) := by
  obtain ⟨as, na, hA1, hA2⟩ := hA
  obtain ⟨bs', nb, hB1, hB2⟩ := hB
  have hA3 : ∀ i, i < 5 → 0 < 1 → ∃ t, as[i]? = some (.int ((v.l.getD i 0 : Nat) : Int) t) := fun i hi _ => ci_get hA2 hi
  have hB3 : ∀ j, j < 5 → ∃ t, bs'[j]? = some (.int ((u.l.getD j 0 : Nat) : Int) t) := fun j hj => ci_get hB2 hj
  clear hA2 hB2
  k_fill
  intro dp un gd cn cs a ccd cl outer A₀ base h₀ L m s Q E B F X N T hk hd' hu' hret
  refine wpAny_call ?_
  k_dflt cell_enter
  k_with_none
  k_with "binaryOp Mod int int" => (k_here; refine mod_5 ?_)
  k_with "subscriptTail Name Name" => (k_here; refine item_list (by k_asm) (by (repeat (first | assumption | exact List.mem_cons_self | exact List.mem_append_right _ List.mem_cons_self | exact List.mem_append_right _ (by assumption) | refine List.mem_cons_of_mem _ ?_))) (by omega) (by omega) (by assumption) ?_)
  k_with "binaryOp BitXor int int" => (k_here; refine xor_nat ?_)
  k_with "call ref" => ((with_reducible show wpAny _ _ (call (Value.ref 49) _) _ _ _); (
      walk_at "use times"
      intro r' n' h' tk' F' N' hR'
      obtain ⟨⟨t', rfl⟩, rfl⟩ := hR'))
  k_steps
  · refine' ring_end hret ?c1 ?c2 ?c3 ?c4
    case c3 => (with_reducible assumption)
    case c1 => k_asm
    case c2 => (with_reducible assumption)
    case c4 => assumption
  · refine' ring_outer ?a1 ?a2 ?a3 ?a4 ?_
    case a3 => (with_reducible assumption)
    case a1 => (with_reducible assumption)
    case a2 => (with_reducible assumption)
    case a4 => assumption
    intro z h1 h2 h3
    simp only [List.contains_cons, List.contains_nil, Bool.or_false, Bool.or_eq_false_iff, beq_eq_false_iff_ne, ne_eq] at h3
    simp [kstB, h1, h3]
  · refine' ring_inner ?b1 ?b2 ?b3 ?b4 ?b5 ?_
    case b4 => (with_reducible assumption)
    case b1 => assumption
    case b2 => assumption
    case b3 => (with_reducible assumption)
    case b5 => assumption
    intro z h1 h2 h3
    simp only [List.contains_cons, List.contains_nil, Bool.or_false, Bool.or_eq_false_iff, beq_eq_false_iff_ne, ne_eq] at h3
    simp [kstB, h1, h3]
end Mine

-- Zc
namespace Mine
open PySem.Calls PySem.Spec
theorem fr_wr {h₀ h h' : Heap} {L : Addr} {m : Str → Option Value} {wr : List Addr} (F : Fr h₀ L h m) (hk : ∀ b o, b ∉ wr → h.get? b = some o → h'.get? b = some o) (hL : L ∉ wr) (h0 : ∀ b ∈ wr, h₀.get? b = none) : Fr h₀ L h' m :=
  ⟨F.ns.at' fun o e => hk L o hL e, fun b o e => hk b o (fun hb => by rw [h0 b hb] at e; cases e) (F.keep b o e), F.above⟩
theorem news_wr {h₀ h h' : Heap} {L : Addr} {news : Led} {wr : List Addr} (N : News h₀ L h news) (hk : ∀ b o, b ∉ wr → h.get? b = some o → h'.get? b = some o) (off : ∀ p ∈ news, p.1 ∉ wr) : News h₀ L h' news :=
  fun p hp => ⟨hk _ _ (off p hp) (N p hp).1, (N p hp).2⟩
/-- the state of a zip of two lists behind i items -/
abbrev ZSt (z TI TO i1 i2 l1 l2 : Addr) (xs ys : Array Value) (i : Nat) (h : Heap) : Prop :=
  IsZip h z TI TO .none ∧ IsPair h TI (.ref i1) (.ref i2) ∧ (∃ a b, IsPair h TO a b) ∧ h.IsListIter i1 l1 i ∧ h.IsListIter i2 l2 i ∧ h.IsList l1 xs ∧ h.IsList l2 ys
theorem zst_objs {z TI TO i1 i2 l1 l2 : Addr} {xs ys : Array Value} {i : Nat} {h : Heap} (st : ZSt z TI TO i1 i2 l1 l2 xs ys i h) :
    ∃ own : Led, own.map (·.1) = [z, TI, TO, i1, i2] ∧ ∀ p ∈ own, h.get? p.1 = some p.2 := by
  obtain ⟨h1, h2, ⟨a, b, h3⟩, ⟨o1, h4, _⟩, ⟨o2, h5, _⟩, _⟩ := st
  have e1 : ∃ o, h.get? z = some o := ⟨_, h1⟩
  have e2 : ∃ o, h.get? TI = some o := ⟨_, h2⟩
  have e3 : ∃ o, h.get? TO = some o := ⟨_, h3⟩
  obtain ⟨oz, h1⟩ := e1
  obtain ⟨oTI, h2⟩ := e2
  obtain ⟨oTO, h3⟩ := e3
  refine ⟨[(z, oz), (TI, oTI), (TO, oTO), (i1, o1), (i2, o2)], rfl, ?_⟩
  · intro p hp
    rcases List.mem_cons.mp hp with rfl | hp
    · exact h1
    · rcases List.mem_cons.mp hp with rfl | hp
      · exact h2
      · rcases List.mem_cons.mp hp with rfl | hp
        · exact h3
        · rcases List.mem_cons.mp hp with rfl | hp
          · exact h4
          · rw [List.mem_singleton.mp hp]; exact h5
section
variable {prog : Program} {w : World} {A : Around} {E : Value → Shared → Prop} {s : Shared} {h₀ : Heap} {L : Addr} {m : Str → Option Value} {env : Env}
/-- what a comprehension over a zip must be told -/
structure ZSrc (prog : Program) (w : World) (A : Around) (h₀ : Heap) (L : Addr) (m : Str → Option Value) (env : Env) (elt : PySem.Expr) (x x₂ : Str) (scope : Scope) (cl : List (Str × Addr)) (s₁ : Shared) (z TI TO i1 i2 l1 l2 : Addr) (xs ys : List Value) (news : Led) (g : Nat → Int) : Prop where
  hh : A.handled = none
  D : ZipApart z TI TO i1 i2 l1 l2
  F : Fr h₀ L s₁.heap m
  N : News h₀ L s₁.heap news
  st : ZSt z TI TO i1 i2 l1 l2 xs.toArray ys.toArray 0 s₁.heap
  off : ∀ p ∈ news, p.1 ∉ [z, TI, TO, i1, i2]
  fresh : ∀ b ∈ [z, TI, TO, i1, i2], h₀.get? b = none ∧ b ≠ L
  src1 : ∃ o, (l1, o) ∈ news
  src2 : ∃ o, (l2, o) ∈ news
  size : xs.length ≤ 1000
  turn : ∀ i xv yv own C oC D m₂ zs h tk (E' : Value → Shared → Prop), xs[i]? = some xv → ys[i]? = some yv → LCg.NsObj oC m₂ → m₂ x = some xv → m₂ x₂ = some yv → Fr h₀ L h m → News h₀ L h ((C, oC) :: (D, LCg.lst zs) :: (own ++ news)) →
    wpAny (model prog w) A (eval elt (compEnvC scope cl C env)) (fun y s' => ∃ h' tk' t, s' = { s₁ with heap := h', toks := tk' } ∧ y = .int (g i) t ∧ Fr h₀ L h' m ∧ News h₀ L h' ((C, oC) :: (D, LCg.lst zs) :: (own ++ news))) E' { s₁ with heap := h, toks := tk }
end
section
variable {prog : Program} {w : World} {A : Around} {E : Value → Shared → Prop} {h₀ : Heap} {L : Addr} {m : Str → Option Value} {env : Env}
theorem zip_block {elt iter : PySem.Expr} {x x₂ : Str} {px px₂ tp : Pos} {kt : Nat} {scope : Scope} {cl : List (Str × Addr)} {pos : Pos} {s₂ : Shared} {z TI TO i1 i2 l1 l2 : Addr} {xs ys : List Value} {news : Led} {g : Nat → Int} {RR : Value → Addr → Result → Shared → Prop}
    (Z : ZSrc prog w A h₀ L m env elt x x₂ scope cl s₂ z TI TO i1 i2 l1 l2 xs ys news g)
    (hcell : ∀ y ∈ scope.names, y.2 ≠ .cell) (hkind : scope.kind = .function) (hx : scope.names.lookup x = some .local) (hx₂ : scope.names.lookup x₂ = some .local) (hxx : x ≠ x₂)
    (hRR : ∀ D C h tk m' zs, Fr h₀ L h m → News h₀ L h ((D, LCg.lst zs) :: news) → LCg.Off1 D news → h.Ns C m' → h₀.get? C = none → C ≠ L → C ≠ D → (∀ p ∈ news, p.1 ≠ C) → IntsAre zs ((List.range (min xs.length ys.length)).map g) → RR (.ref D) C (.ok .next) { s₂ with heap := h, toks := tk }) :
    wpAny (model prog w) A (newList []) (fun acc s₃ => wpAny (model prog w) A (newFunctionEnv scope env.globals cl [] env.qual none .none (some env)) (fun cenv s₄ =>
      codeAny (model prog w) A (.compStart (.ListComp elt [⟨.Tuple [.Name x px, .Name x₂ px₂] kt tp, iter, [], 0⟩] scope pos) 0 (.ref z) acc { cenv with scope := relabel scope env }) (RR acc cenv.locals) s₄) E s₃) E s₂ := by
  obtain ⟨hh, DA, F, N, st, off, fresh, ⟨ol1, src1⟩, ⟨ol2, src2⟩, size, turn⟩ := Z
  refine wpAny_newObj_type (wpAny_newFunctionEnv hcell (by intro y hy; simp at hy) (fun h₁ hns₁ hsb₁ => ?_) hkind)
  dsimp only at hns₁ hsb₁ ⊢
  generalize hH2 : s₂.heap.push { cls := .type "list", dict := none, data := .seq ([] : List Value).toArray } = H2 at hns₁ hsb₁ ⊢
  generalize hd : s₂.heap.objs.size = D
  generalize hc : H2.objs.size = C at hns₁ hsb₁ ⊢
  have hCD : C = D + 1 := by rw [← hc, ← hd, ← hH2, Heap.size_push]
  have low : ∀ b o, s₂.heap.get? b = some o → b ≠ C ∧ b ≠ D := fun b o e => by
    have := Heap.lt_size e
    rw [hd] at this
    exact ⟨Nat.ne_of_lt (by rw [hCD]; exact Nat.lt_succ_of_lt this), Nat.ne_of_lt this⟩
  have old : ∀ b o, s₂.heap.get? b = some o → h₁.get? b = some o := fun b o e => hsb₁.extBut b o (low b o e).1 (Heap.get?_push_of_some _ (hH2 ▸ Heap.get?_push_of_some _ e))
  have hDC : D ≠ C := by rw [hCD]; exact Nat.ne_of_lt (Nat.lt_succ_self _)
  have hacc : h₁.get? D = some (LCg.lst []) := hsb₁.extBut _ _ hDC (Heap.get?_push_of_some _ (by rw [← hH2, ← hd]; exact Heap.get?_push_size _ rfl))
  have new0 : ∀ b, D ≤ b → h₀.get? b = none := fun b hb => by
    cases e : h₀.get? b with
    | none => rfl
    | some o => have := Heap.lt_size (F.keep b o e); rw [hd] at this; exact absurd this (Nat.not_lt.mpr hb)
  have hD0 := new0 D (Nat.le_refl _)
  have hC0 := new0 C (by rw [hCD]; exact Nat.le_succ _)
  have hLlt : L < D := by rw [← hd]; exact F.ns.lt
  have hDL : D ≠ L := Nat.ne_of_gt hLlt
  have hCL : C ≠ L := by rw [hCD]; exact Nat.ne_of_gt (Nat.lt_succ_of_lt hLlt)
  have W := (WalksT.zip2 (prog := prog) (w := w) (A := A) hh z TI TO i1 i2 l1 l2 DA xs.toArray ys.toArray).toU
  obtain ⟨own0, hm0, hg0⟩ := zst_objs st
  have ownlow : ∀ b ∈ [z, TI, TO, i1, i2], b ≠ C ∧ b ≠ D := fun b hb => by
    rw [← hm0] at hb
    obtain ⟨p, hp, rfl⟩ := List.mem_map.mp hb
    exact low _ _ (hg0 p hp)
  have wr5 : ∀ b ∈ [z, TO, i1, i2], b ∈ [z, TI, TO, i1, i2] := fun b hb => by
    simp only [List.mem_cons, List.not_mem_nil, or_false] at hb ⊢
    rcases hb with h | h | h | h <;> simp [h]
  have hLwr : L ∉ [z, TO, i1, i2] := fun hb => (fresh L (wr5 L hb)).2 rfl
  have h0wr : ∀ b ∈ [z, TO, i1, i2], h₀.get? b = none := fun b hb => (fresh b (wr5 b hb)).1
  have offwr : ∀ p ∈ news, p.1 ∉ [z, TO, i1, i2] := fun p hp hb => off p hp (wr5 _ hb)
  have hCwr : C ∉ [z, TO, i1, i2] := fun hb => (ownlow C (wr5 C hb)).1 rfl
  have hDwr : D ∉ [z, TO, i1, i2] := fun hb => (ownlow D (wr5 D hb)).2 rfl
  have offC : ∀ p ∈ news, p.1 ≠ C := fun p hp => (low _ _ (N p hp).1).1
  have offD : ∀ p ∈ news, p.1 ≠ D := fun p hp => (low _ _ (N p hp).1).2
  have fpold : ∀ b ∈ [z, TI, TO, i1, i2, l1, l2], b ∈ [z, TI, TO, i1, i2] ∨ (b = l1 ∨ b = l2) := fun b hb => by
    simp only [List.mem_cons, List.not_mem_nil, or_false] at hb ⊢
    rcases hb with h | h | h | h | h | h | h <;> simp [h]
  have fpC : ∀ b ∈ [z, TI, TO, i1, i2, l1, l2], b ≠ C ∧ b ≠ D := fun b hb => by
    rcases fpold b hb with h | h | h
    · exact ownlow b h
    · rw [h]; exact low _ _ (N _ src1).1
    · rw [h]; exact low _ _ (N _ src2).1
  have loop : ∀ s₃ : Shared, s₃ = { s₂ with heap := h₁, toks := s₂.toks + ([] : List (Str × Value)).length } →
      codeAny (model prog w) A (.compLoop (.ListComp elt [⟨.Tuple [.Name x px, .Name x₂ px₂] kt tp, iter, [], 0⟩] scope pos) 0 (.ref z) (.ref D) (compEnvC scope cl C env)) (RR (.ref D) C) s₃ := by
    rintro s₃ rfl
    refine LCp.codeAny_compLoop_pair
      (fun k s' => ∃ h' tk i zs m', s' = { s₂ with heap := h', toks := tk } ∧ i ≤ min xs.length ys.length ∧ k = min xs.length ys.length + 1 - i ∧ ZSt z TI TO i1 i2 l1 l2 xs.toArray ys.toArray i h' ∧ Fr h₀ L h' m ∧ h'.Ns C m' ∧ News h₀ L h' ((D, LCg.lst zs) :: news) ∧ IntsAre zs ((List.range i).map g)) ?_ (min xs.length ys.length + 1)
      ⟨h₁, _, 0, [], _, rfl, Nat.zero_le _, rfl, W.frame _ _ _ st fun b _ o e => old b o e, F.keeps old, hns₁, fun p hp => ?_, .nil⟩
    · rintro k s' ⟨h', tk, i, zs, m', rfl, hi, rfl, st', F', hn', N', hz⟩
      by_cases hlt : i < min xs.length ys.length
      · refine W.item i _ _ _ (by simpa using hlt) st' fun T vals h₂ tk₂ hP hT hMid hk₂ => ?_
        obtain ⟨xv, yv, hxv, hyv, rfl⟩ := hP
        refine W.go _ _ _ i T _ _ _ hMid fun h₃ st₃ hk₃ => ?_
        have hk : ∀ b o, b ∉ [z, TO, i1, i2] → h'.get? b = some o → h₃.get? b = some o := fun b o hb e => hk₃ b o hb (hk₂ b o hb e)
        have ht : IsTup h₃ T #[xv, yv] := by
          obtain ⟨o, e, r⟩ := hT
          exact ⟨o, hk₃ _ _ (W.apart _ _ _ hMid) e, r⟩
        refine assign_Tuple_tuple hh ht rfl rfl fun h₅ he => ?_
        have he' : ∀ b o, h₃.get? b = some o → h₅.get? b = some o := fun b o e => he b o (Nat.ne_of_lt (Heap.lt_size e)) e
        refine assignInOrder_cons (wpAny_assign_Name (wpAny_storeName_local (lookup_relabel_local hx) ((hn'.at' fun o e => hk _ o hCwr e).at' fun o e => he' _ o e) (fun h₆ hn₆ hs₆ => ?_) (by simp [compEnvC, relabel, hkind])))
        refine assignInOrder_cons (wpAny_assign_Name (wpAny_storeName_local (lookup_relabel_local hx₂) hn₆ (fun h₇ hn₇ hs₇ => ?_) (by simp [compEnvC, relabel, hkind])))
        refine assignInOrder_nil ?_
        have up : ∀ b o, b ≠ C → h₃.get? b = some o → h₇.get? b = some o := fun b o hb e => hs₇.extBut b o hb (hs₆.extBut b o hb (he' b o e))
        have st₇ := W.frame _ _ _ st₃ fun b hb o e => up b o (fpC b hb).1 e
        obtain ⟨own, hom, hog⟩ := zst_objs st₇
        obtain ⟨oC, heC, hoC⟩ := LCg.ns_obj hn₇
        have F₇ : Fr h₀ L h₇ m := (((fr_wr F' hk hLwr h0wr).keeps he').change hs₆ hCL hC0).change hs₇ hCL hC0
        have N₃ : News h₀ L h₃ ((D, LCg.lst zs) :: news) := news_wr N' hk fun p hp => by
          rcases List.mem_cons.mp hp with rfl | hp
          · exact hDwr
          · exact offwr p hp
        have N₇ : News h₀ L h₇ ((C, oC) :: (D, LCg.lst zs) :: (own ++ news)) := fun p hp => by
          rcases List.mem_cons.mp hp with rfl | hp
          · exact ⟨heC, hCL, hC0⟩
          · rcases List.mem_cons.mp hp with rfl | hp
            · have := N₃ _ (.head _)
              exact ⟨up _ _ hDC this.1, this.2⟩
            · rcases List.mem_append.mp hp with hp | hp
              · have hb : p.1 ∈ [z, TI, TO, i1, i2] := by rw [← hom]; exact List.mem_map_of_mem hp
                exact ⟨hog p hp, (fresh _ hb).2, (fresh _ hb).1⟩
              · have := N₃ p (.tail _ hp)
                exact ⟨up _ _ (offC p hp) this.1, this.2⟩
        refine wpAny_mono (turn i xv yv own C oC D _ zs h₇ _ _ (by simpa using hxv) (by simpa using hyv) hoC (by simp [hxx]) (by simp) F₇ N₇) (fun y s₄ h₄ => ?_) fun _ _ e => e
        obtain ⟨h₈, tk₈, t, rfl, rfl, F₈, N₈⟩ := h₄
        have st₈ := W.frame _ _ _ st₇ fun b hb o e => by
          rcases fpold b hb with h | h | h
          · rw [← hom] at h
            obtain ⟨p, hp, rfl⟩ := List.mem_map.mp h
            rw [hog p hp] at e
            rw [← Option.some.inj e]
            exact (N₈ p (.tail _ (.tail _ (List.mem_append_left _ hp)))).1
          · subst h
            have e1 := (N₇ _ (.tail _ (.tail _ (List.mem_append_right _ src1)))).1
            rw [e1] at e
            rw [← Option.some.inj e]
            exact (N₈ _ (.tail _ (.tail _ (List.mem_append_right _ src1)))).1
          · subst h
            have e1 := (N₇ _ (.tail _ (.tail _ (List.mem_append_right _ src2)))).1
            rw [e1] at e
            rw [← Option.some.inj e]
            exact (N₈ _ (.tail _ (.tail _ (List.mem_append_right _ src2)))).1
        have hzl := hz.length
        simp only [List.length_map, List.length_range] at hzl
        refine append_at (hsz := by show zs.toArray.size ≤ sizeLine; rw [List.size_toArray, hzl, sizeLine_eq]; omega) (N₈ _ (.tail _ (.head _))).1 fun h₉ hs₉ hD₉ => ?_
        refine ⟨min xs.length ys.length + 1 - (i + 1), by omega, h₉, tk₈, i + 1, zs ++ [.int (g i) t], _, rfl, hlt, rfl, W.frame _ _ _ st₈ fun b hb o e => hs₉.extBut b o (fpC b hb).2 e, F₈.change hs₉ hDL hD0,
          (hoC.ns (N₈ _ (.head _)).1).sameBut hs₉ (Ne.symm hDC), fun p hp => ?_, ?_⟩
        · rcases List.mem_cons.mp hp with rfl | hp
          · exact ⟨hD₉.trans (congrArg some (LCg.lst_snoc zs _)), hDL, hD0⟩
          · have := N₈ p (.tail _ (.tail _ (List.mem_append_right _ hp)))
            exact ⟨hs₉.extBut _ _ (offD p hp) this.1, this.2⟩
        · rw [List.range_succ]
          simpa using IntsAre.append hz (.cons (g i) t .nil)
      · have hin : i = min xs.length ys.length := Nat.le_antisymm hi (Nat.not_lt.mp hlt)
        refine W.done _ _ _ (by rw [show min xs.toArray.size ys.toArray.size = i by rw [hin]; simp]; exact st') fun h₂ tk₂ hk₂ => ?_
        rw [hin] at hz
        exact hRR D C h₂ tk₂ _ zs (fr_wr F' hk₂ hLwr h0wr) (news_wr N' hk₂ fun p hp => by
          rcases List.mem_cons.mp hp with rfl | hp
          · exact hDwr
          · exact offwr p hp) (off1_of offD) (hn'.at' fun o e => hk₂ _ o hCwr e) hC0 hCL (Ne.symm hDC) offC hz
    · rcases List.mem_cons.mp hp with rfl | hp
      · exact ⟨hacc, hDL, hD0⟩
      · exact ⟨old _ _ (N p hp).1, (N p hp).2⟩
  exact codeAny_compStart_list (loop _ rfl) (W.self 0 _ _ _ (W.frame _ _ _ st fun b _ o e => old b o e) (loop _ rfl))
end
end Mine

-- Zd
namespace Mine
open PySem.Calls PySem.Spec
section
variable {prog : Program} {w : World} {A : Around} {E : Value → Shared → Prop} {s : Shared} {h₀ : Heap} {L : Addr} {m : Str → Option Value} {env : Env}
def ZAt (prog : Program) (w : World) (A : Around) (h₀ : Heap) (L : Addr) (m : Str → Option Value) (env : Env) (elt : PySem.Expr) (x x₂ y : Str) (scope : Scope) (cl : List (Str × Addr)) (Q : Flow → Shared → Prop) (xv : Value) (s₁ : Shared) : Prop :=
  ∃ z TI TO i1 i2 l1 l2 xs ys news g, xv = .ref z ∧ ZSrc prog w A h₀ L m env elt x x₂ scope cl s₁ z TI TO i1 i2 l1 l2 xs ys news g ∧
    (∀ zs D h tk, IntsAre zs ((List.range (min xs.length ys.length)).map g) → Fr h₀ L h (fun q => if q = y then some (.ref D) else m q) → News h₀ L h ((D, LCg.lst zs) :: news) → (∀ p ∈ news, p.1 ≠ D) → Q .next { s₁ with heap := h, toks := tk })
theorem zip_assign {elt iter : PySem.Expr} {x x₂ y : Str} {px px₂ tp py : Pos} {kt : Nat} {scope : Scope} {cl : List (Str × Addr)} {pos spos : Pos} {Q : Flow → Shared → Prop} (hLe : env.locals = L)
    (hsw : swapsWith (.ListComp elt [⟨.Tuple [.Name x px, .Name x₂ px₂] kt tp, iter, [], 0⟩] scope pos) (some (.Name y py)) spos.line env = pure true)
    (hclos : closureFor scope env = pure cl) (hcell : ∀ q ∈ scope.names, q.2 ≠ .cell) (hkind : scope.kind = .function)
    (hnames : ∀ q ∈ scope.names, q.2 = .local → scope.names.lookup q.1 = some .local) (hx : scope.names.lookup x = some .local) (hx₂ : scope.names.lookup x₂ = some .local) (hxx : x ≠ x₂)
    (hy : env.kindOf y = some .local) (hp : (env.scope.kind == .class || (env.scope.kind == .module && env.locals != env.globals)) = false)
    (h : wpAny (model prog w) A (eval iter env) (ZAt prog w A h₀ L m env elt x x₂ y scope cl Q) E s)
    (hs : ∀ x, foldedSetIterable iter env x = pure x := by intro _; rfl) :
    wpAny (model prog w) A (exec (.Assign [.Name y py] (.ListComp elt [⟨.Tuple [.Name x px, .Name x₂ px₂] kt tp, iter, [], 0⟩] scope pos) spos) env) Q E s := by
  subst hLe
  rw [exec_Assign_Name_used _ _ _ _ hsw]
  refine wpAny_bind (wpAny_standAt (wpAny_bind ?_))
  show wpAny _ A (do let _ ← comprehension (.ListComp elt [⟨.Tuple [.Name x px, .Name x₂ px₂] kt tp, iter, [], 0⟩] scope pos) scope env _ (newList []) false (eval iter env) (some (assign (.Name y py) env))) _ _ s
  refine wpAny_bind (wpAny_mono (wpAny_comprehension_free (use := some (assign (.Name y py) env)) (Q := fun _ s' => Q .next s') rfl hs hclos hkind hnames
    (wpAny_mono h (fun xv s₁ h₁ => ?_) fun _ _ e => e)) (fun _ s' hq => wpAny_pure (wpAny_pure hq)) fun _ _ e => e)
  obtain ⟨z, TI, TO, i1, i2, l1, l2, xs, ys, news, g, rfl, Z, fin⟩ := h₁
  refine wpAny_pyIter_zip Z.st.1 ?_
  refine zip_block Z hcell hkind hx hx₂ hxx ?_
  intro D C h' tk m' zs F' N' o1 hn hC0 hCL hCD offC hz
  show wpAny _ A (assign (.Name y py) env (.ref D)) _ _ _
  refine wpAny_assign_Name (wpAny_storeName_local hy F'.ns (fun h₂ hn₂ hs₂ => ?_) hp)
  have hL0 : h₀.get? env.locals = none := Heap.get?_none_of_le F'.above
  have F₂ : Fr h₀ env.locals h₂ (fun q => if q = y then some (.ref D) else m q) := ⟨hn₂, fun b o e => hs₂.extBut b o (fun q => by rw [q, hL0] at e; cases e) (F'.keep b o e), F'.above⟩
  refine ⟨m', hn.sameBut hs₂ hCL, fun h'' hs'' => fin zs D h'' _ hz (F₂.change hs'' hCL hC0) (fun p hp' => ?_) (off1_mem o1)⟩
  have e : h₂.get? p.1 = some p.2 := hs₂.extBut _ _ (N' p hp').2.1 (N' p hp').1
  refine ⟨hs''.extBut _ _ ?_ e, (N' p hp').2⟩
  rcases List.mem_cons.mp hp' with rfl | hp'
  · exact Ne.symm hCD
  · exact offC p hp'
/-- zip(a, b) of two made lists: its parts on the ledger -/
abbrev zipO (TI TO : Addr) : Obj := { cls := .type "zip", dict := none, data := .fields #[.none, .bool false, .bool false, .ref TI, .ref TO], slots := #[] }
theorem call_zipK {l1 l2 : Addr} {xs ys : List Value} {n1 n2 : Nat} {news : Led} {Q : Value → Shared → Prop} (F : Fr h₀ L s.heap m) (N : News h₀ L s.heap news) (hl1 : (l1, listOf xs.toArray n1) ∈ news) (hl2 : (l2, listOf ys.toArray n2) ∈ news)
    (h : ∀ (B : Nat) h' o1 o2, o1.cls = .type "list_iterator" → o1.data = .fields #[.ref l1, .int 0 0] → o2.cls = .type "list_iterator" → o2.data = .fields #[.ref l2, .int 0 0] → Fr h₀ L h' m →
      News h₀ L h' ((B + 4, zipO (B + 2) (B + 3)) :: (B + 2, tupO [.ref B, .ref (B + 1)]) :: (B + 3, tupO [.none, .none]) :: (B, o1) :: (B + 1, o2) :: news) → (∀ p ∈ news, p.1 < B) → Q (.ref (B + 4)) { s with heap := h' }) :
    wpAny (model prog w) A (call (.type "zip") [.ref l1, .ref l2]) Q E s := by
  have h1 : s.heap.IsList l1 xs.toArray := ⟨_, (N _ hl1).1, rfl, n1, rfl⟩
  have h2 : s.heap.IsList l2 ys.toArray := ⟨_, (N _ hl2).1, rfl, n2, rfl⟩
  refine call_zip_2 h1 h2 fun h' hz hTI hTO hi1 hi2 hsz hk => ?_
  obtain ⟨o1, e1, c1, d1⟩ := hi1
  obtain ⟨o2, e2, c2, d2⟩ := hi2
  have hLs : L < s.heap.objs.size := F.ns.lt
  have new : ∀ k, h₀.get? (s.heap.objs.size + k) = none ∧ s.heap.objs.size + k ≠ L := fun k =>
    ⟨Heap.get?_none_of_le (Nat.le_trans F.above (Nat.le_trans (Nat.le_of_lt hLs) (Nat.le_add_right _ k))), Nat.ne_of_gt (Nat.lt_of_lt_of_le hLs (Nat.le_add_right _ k))⟩
  refine h s.heap.objs.size h' o1 o2 c1 d1 c2 d2 (F.keeps hk) (fun p hp => ?_) fun p hp => Heap.lt_size (N p hp).1
  rcases List.mem_cons.mp hp with rfl | hp
  · exact ⟨hz, (new 4).2, (new 4).1⟩
  · rcases List.mem_cons.mp hp with rfl | hp
    · exact ⟨hTI, (new 2).2, (new 2).1⟩
    · rcases List.mem_cons.mp hp with rfl | hp
      · exact ⟨hTO, (new 3).2, (new 3).1⟩
      · rcases List.mem_cons.mp hp with rfl | hp
        · exact ⟨e1, (new 0).2, (new 0).1⟩
        · rcases List.mem_cons.mp hp with rfl | hp
          · exact ⟨e2, (new 1).2, (new 1).1⟩
          · exact ⟨hk _ _ (N p hp).1, (N p hp).2⟩
end
end Mine

-- P3a
namespace Mine
open PySem.Calls PySem.Spec
/-- the ledger behind multiples(): what stood before comes first -/
theorem led_front {h₀ h : Heap} {L : Addr} {more : Led} {a b c : Addr × Obj} (N : News h₀ L h (more ++ [a, b, c])) : News h₀ L h (a :: b :: c :: more) := News.sub N fun p hp => by
  simp only [List.mem_cons, List.mem_append, List.not_mem_nil, or_false] at hp ⊢
  rcases hp with h | h | h | h <;> simp [h]
theorem dis3 {more : Led} {a b c : Addr × Obj} (h : ∀ x ∈ more, ∀ q ∈ [a, b, c], x.1 ≠ q.1) : (∀ x ∈ more, x.1 ≠ a.1) ∧ (∀ x ∈ more, x.1 ≠ b.1) ∧ (∀ x ∈ more, x.1 ≠ c.1) :=
  ⟨fun x hx => h x hx a (by simp), fun x hx => h x hx b (by simp), fun x hx => h x hx c (by simp)⟩
theorem ne4 {more : Led} {a b c : Addr × Obj} {T : Addr} (h : ∀ q ∈ a :: b :: c :: more, q.1 ≠ T) : (@Ne Nat a.1 T) ∧ (@Ne Nat b.1 T) ∧ (@Ne Nat c.1 T) ∧ ∀ q ∈ more, q.1 ≠ T :=
  ⟨h a (by simp), h b (by simp), h c (by simp), fun q hq => h q (by simp [hq])⟩
theorem rows_up {R : Addr} {n : Nat} {more : Led} {a b c : Addr × Obj} (h : RowsAt R n more) : RowsAt R n (a :: b :: c :: more) := h.mono fun p hp => by simp [hp]
end Mine

-- P3b
namespace Mine
open PySem.Calls PySem.Spec
/-- the law's ledger: the table 51 ahead of all else -/
structure L3 (R T cR cT Nn : Addr) (nvs : List Value) (nn : Nat) (Tb : Obj) (rest : Led) : Prop where
  lam : LamTab lp51 lq51 Tb rest
  off : ∀ q ∈ rest, q.1 ≠ 51
  rows : RowsAt R 15 rest
  tab : TabAt T lgs rest
  cr : ∃ o, (cR, o) ∈ rest ∧ o.data = .cell (some (.ref R))
  ct : ∃ o, (cT, o) ∈ rest ∧ o.data = .cell (some (.ref T))
  num : (Nn, listOf nvs.toArray nn) ∈ rest
theorem L3.grow {R T cR cT Nn : Addr} {nvs : List Value} {nn : Nat} {Tb T' : Obj} {rest extra : Led} (h : L3 R T cR cT Nn nvs nn Tb rest) (hT : LamTab lp51 lq51 T' (extra ++ rest)) (hx : ∀ x ∈ extra, x.1 ≠ 51) : L3 R T cR cT Nn nvs nn T' (extra ++ rest) := by
  have up : ∀ p ∈ rest, p ∈ extra ++ rest := fun p hp => List.mem_append_right _ hp
  refine ⟨hT, ?_, h.rows.mono up, h.tab.mono up, ?_, ?_, up _ h.num⟩
  · intro q hq
    rcases List.mem_append.mp hq with hq | hq
    · exact hx q hq
    · exact h.off q hq
  · obtain ⟨o, h1, h2⟩ := h.cr; exact ⟨o, up _ h1, h2⟩
  · obtain ⟨o, h1, h2⟩ := h.ct; exact ⟨o, up _ h1, h2⟩
/-- what a call of _law_image leaves, ahead of the table the entries pre -/
def ImgP (R T cR cT Nn : Addr) (nvs : List Value) (nn : Nat) (pre : Led) (Tb : Obj) (rest : Led) (N : Nat) (r : Value) (n : Led) : Prop :=
  ∃ t T' extra, r = .int ((img N : Nat) : Int) t ∧ n = pre ++ (51, T') :: (extra ++ rest) ∧ L3 R T cR cT Nn nvs nn T' (extra ++ rest) ∧ ∀ x ∈ extra, ∀ q ∈ pre ++ (51, Tb) :: rest, q.1 < x.1
theorem image_pre {w : World} {p : Program} {loose : List Str} {mean : ExcName → Option Value} {mg mb : Str → Option Value} {R T cR cT Nn : Addr} {nvs : List Value} {nn : Nat} {Tb : Obj} {rest : Led} (pre : Led) (h : L3 R T cR cT Nn nvs nn Tb rest) (hpre : ∀ q ∈ pre, q.1 ≠ 51) (n : Int) (N : Nat) (tn : Tok) (hnN : n.natAbs = N) (hN : N < 1048576) :
    FnSpec Challenge.rw_nq0005_03.row.prog w (hd.heap_39 w.params) p loose mean mg mb (.ref 56) [.ref R, .int n tn] 3 32 (pre ++ (51, Tb) :: rest) (ImgP R T cR cT Nn nvs nn pre Tb rest N) := by
  have key := image_spec (w := w) (p := p) (loose := loose) (mean := mean) (mg := mg) (mb := mb) (pre ++ rest) rest Tb ?_ (fun p hp => List.mem_append_right _ hp) h.lam R (h.rows.mono fun p hp => List.mem_append_right _ hp) n N tn hnN hN
  · refine key.mono ?_ (Nat.le_refl _) (Nat.le_refl _) fun r m hR => ?_
    · intro q hq
      simp only [List.mem_cons, List.mem_append] at hq ⊢
      rcases hq with h | h | h <;> simp [h]
    · obtain ⟨t, T', extra, rfl, rfl, hT, hx⟩ := hR
      refine ⟨pre ++ (51, T') :: (extra ++ rest), ?_, t, T', extra, rfl, rfl, h.grow hT fun x hxx => Nat.ne_of_gt (hx x hxx _ (.head _)), ?_⟩
      · intro q hq
        simp only [List.mem_cons, List.mem_append] at hq ⊢
        rcases hq with h | h | h | h <;> simp [h]
      · intro x hxx q hq
        refine hx x hxx q ?_
        simp only [List.mem_cons, List.mem_append] at hq ⊢
        rcases hq with h | h | h <;> simp [h]
  · intro q hq
    rcases List.mem_append.mp hq with hq | hq
    · exact hpre q hq
    · exact h.off q hq
section
variable {prog : Program} {w : World} {A : Around} {h₀ : Heap} {L : Addr} {m : Str → Option Value} {env : Env} {elt : PySem.Expr} {x : Str} {scope : Scope} {cl : List (Str × Addr)} {s : Shared} {S : List (Addr × Obj) → Prop} {Fin : List Value → List (Addr × Obj) → Prop} {news : List (Addr × Obj)}
/-- a list display whose items are ints and whose turns change the ledger -/
theorem comp_inv {vs : List Value} (g : Nat → Int) (Inv : Led → Prop) (h0 : Inv news)
    (turn : ∀ i v nw I oI C oC D m₂ ys h tk (E' : Value → Shared → Prop), vs[i]? = some v → Inv nw → LCg.NsObj oC m₂ → m₂ x = some v → Fr h₀ L h m → News h₀ L h ((I, oI) :: (C, oC) :: (D, LCg.lst ys) :: nw) → LCg.Off3 I C D nw → ((@Ne Nat I C) ∧ (@Ne Nat I D) ∧ (@Ne Nat C D)) →
      wpAny (model prog w) A (eval elt (compEnvC scope cl C env)) (LCg.CompEnd h₀ L m { s with heap := h, toks := tk } I oI C oC D (LCg.lst ys) S (fun y nw' => Inv nw' ∧ ∃ t, y = .int (g i) t)) E' { s with heap := h, toks := tk })
    (fin : ∀ ys nw, Inv nw → IntsAre ys ((List.range vs.length).map g) → Fin ys nw) : LCg.CompRest prog w A h₀ L m env elt x scope cl s S (fun i v => vs.toArray[i]? = some v) Fin vs.toArray.size 0 [] news := by
  have key : ∀ (j i : Nat) (ys : List Value) (nw : Led), i + j = vs.length → Inv nw → IntsAre ys ((List.range i).map g) → LCg.CompRest prog w A h₀ L m env elt x scope cl s S (fun i v => vs.toArray[i]? = some v) Fin j i ys nw := by
    intro j
    induction j with
    | zero =>
      intro i ys nw hi hI hy
      have e : i = vs.length := by omega
      subst e
      exact LCg.CompRest.zero (fin ys nw hI hy)
    | succ j ih =>
      intro i ys nw hi hI hy
      refine LCg.CompRest.succ ?_
      intro v I oI C oC D m₂ h tk E' hv hC hx F N off ne
      refine wpAny_mono (turn i v nw I oI C oC D m₂ ys h tk E' (by simpa using hv) hI hC hx F N off ne) (fun y s₂ hq => ?_) fun _ _ e => e
      obtain ⟨h', tk', nw', e, F', N', off', hS, hI', t', hy'⟩ := hq
      refine ⟨h', tk', nw', e, F', N', off', hS, ?_⟩
      rw [hy']
      refine ih (i + 1) _ nw' (by omega) hI' ?_
      rw [List.range_succ]
      simpa using IntsAre.append hy (.cons (g i) t' .nil)
  rw [List.size_toArray]
  exact key vs.length 0 [] news (by omega) h0 (by simp; exact .nil)
end
def I3 (R T cR cT Nn : Addr) (nvs : List Value) (nn : Nat) (nw : Led) : Prop := ∃ Tb rest, nw = (51, Tb) :: rest ∧ L3 R T cR cT Nn nvs nn Tb rest
/-- the end of a turn of images -/
theorem img_cend {h₀ : Heap} {L I C D : Addr} {m : Str → Option Value} {s₁ : Shared} {oI oC oD Tb T' : Obj} {R T cR cT Nn : Addr} {nvs : List Value} {nn : Nat} {rest extra : Led} {r : Int} {t : Tok} {h' : Heap} {tk : Nat}
    (F : Fr h₀ L h' m) (N : News h₀ L h' ([(I, oI), (C, oC), (D, oD)] ++ (51, T') :: (extra ++ rest))) (hL : L3 R T cR cT Nn nvs nn T' (extra ++ rest)) (hx : ∀ x ∈ extra, ∀ q ∈ [(I, oI), (C, oC), (D, oD)] ++ (51, Tb) :: rest, q.1 < x.1) (off : LCg.Off3 I C D ((51, Tb) :: rest)) :
    LCg.CompEnd h₀ L m s₁ I oI C oC D oD (LCg.SrcAt h₀ Nn nvs.toArray) (fun y nw' => I3 R T cR cT Nn nvs nn nw' ∧ ∃ t, y = .int r t) (.int r t) { s₁ with heap := h', toks := tk } := by
  refine LCg.CompEnd.intro F N ((51, T') :: (extra ++ rest)) (fun _ h => h) (LCg.Off3.of fun p hp => ?_) (.inr ⟨_, .tail _ hL.num, rfl, _, rfl⟩) ⟨⟨T', _, rfl, hL⟩, t, rfl⟩
  have o := off.mem
  rcases List.mem_cons.mp hp with rfl | hp
  · exact o (51, Tb) (.head _)
  · rcases List.mem_append.mp hp with hp | hp
    · exact ⟨Nat.ne_of_gt (hx p hp (I, oI) (.head _)), Nat.ne_of_gt (hx p hp (C, oC) (.tail _ (.head _))), Nat.ne_of_gt (hx p hp (D, oD) (.tail _ (.tail _ (.head _))))⟩
    · exact o p (.tail _ hp)
end Mine

-- P3c
namespace Mine
open PySem.Calls PySem.Spec
def nums (l : List Int) : List Nat := (l.map fun k => ((if k < 0 then -k else k).fmod 1048576).toNat) ++ [1043915, 694390, 344097]
theorem nums_is (l : List Int) : List.map (fun k' : Int => (if k' < 0 then -k' else k').fmod (16 ^ Int.toNat 5)) l ++ [1043915, 694390, 344097] = ci (nums l) := by
  unfold nums ci
  rw [List.map_append, List.map_map]
  congr 1
  refine List.map_congr_left fun k _ => ?_
  have h1 : 0 ≤ (if k < 0 then -k else k).fmod 1048576 := Int.fmod_nonneg_of_pos _ (by decide)
  have e : ((16 : Int) ^ Int.toNat 5) = 1048576 := by decide
  rw [e]
  simp only [Function.comp]
  omega
theorem nums_lt (l : List Int) : ∀ n ∈ nums l, n < 1048576 := by
  intro n hn
  rcases List.mem_append.mp hn with h | h
  · obtain ⟨k, _, rfl⟩ := List.mem_map.mp h
    have h1 : 0 ≤ (if k < 0 then -k else k).fmod 1048576 := Int.fmod_nonneg_of_pos _ (by decide)
    have h2 : (if k < 0 then -k else k).fmod 1048576 < 1048576 := Int.fmod_lt_of_pos _ (by decide)
    omega
  · simp only [List.mem_cons, List.not_mem_nil, or_false] at h
    omega
theorem getD_lt {l : List Nat} (h : ∀ n ∈ l, n < 1048576) (i : Nat) : l.getD i 0 < 1048576 := by
  rw [List.getD_eq_getElem?_getD]
  cases e : l[i]? with
  | none => simp
  | some n => simpa using h n (List.mem_of_getElem? e)
theorem l3_start {h₀ h : Heap} {L Dn l' D1 D2 T R : Addr} {L0 : Nat} {ws ts : List Value} {nt : Nat} {o1 o2 o3 oT oR : Obj} {more : Led}
    (N : News h₀ L h ((Dn, listOf ws.toArray 0) :: (l', o1) :: (D1, o2) :: (D2, o3) :: (T, listOf ts.toArray nt) :: (L0 + 1 + 1, oT) :: (L0 + 1, oR) :: (51, tabObj #[]) :: more))
    (hrows : RowsAt R 15 more) (hts : IntsAre ts lgs) (dR : oR.data = .cell (some (.ref R))) (dT : oT.data = .cell (some (.ref T))) (hm3 : ∀ x ∈ more, x.1 ≠ 51) (hn3 : @Ne Nat 51 T)
    (h1 : l' < Dn ∧ D1 < Dn ∧ D2 < Dn ∧ T < Dn ∧ L0 + 1 + 1 < Dn ∧ L0 + 1 < Dn ∧ 51 < Dn ∧ AllLt Dn more) (h2 : D1 < l' ∧ D2 < l' ∧ T < l' ∧ L0 + 1 + 1 < l' ∧ L0 + 1 < l' ∧ 51 < l' ∧ AllLt l' more)
    (h3 : D2 ≠ D1 ∧ T ≠ D1 ∧ L0 + 1 + 1 ≠ D1 ∧ L0 + 1 ≠ D1 ∧ (@Ne Nat 51 D1) ∧ LCg.Off1 D1 more) (h4 : T < D2 ∧ L0 + 1 + 1 < D2 ∧ L0 + 1 < D2 ∧ 51 < D2 ∧ AllLt D2 more) (h5 : 51 < L0) :
    ∃ rest, News h₀ L h ((51, tabObj #[]) :: rest) ∧ L3 R T (L0 + 1) (L0 + 1 + 1) Dn ws 0 (tabObj #[]) rest := by
  refine ⟨(Dn, listOf ws.toArray 0) :: (l', o1) :: (D1, o2) :: (D2, o3) :: (T, listOf ts.toArray nt) :: (L0 + 1 + 1, oT) :: (L0 + 1, oR) :: more, News.sub N ?_, .inl rfl, ?_, hrows.mono fun p hp => by simp [hp], ⟨ts, nt, by simp, hts⟩, ⟨oR, by simp, dR⟩, ⟨oT, by simp, dT⟩, .head _⟩
  · intro p hp
    simp only [List.mem_cons] at hp ⊢
    rcases hp with h | h | h | h | h | h | h | h | h <;> simp [h]
  · intro q hq
    simp only [List.mem_cons] at hq
    rcases hq with rfl | rfl | rfl | rfl | rfl | rfl | rfl | hq
    · exact Nat.ne_of_gt h1.2.2.2.2.2.2.1
    · exact Nat.ne_of_gt h2.2.2.2.2.2.1
    · exact Ne.symm h3.2.2.2.2.1
    · exact Nat.ne_of_gt h4.2.2.2.1
    · exact Ne.symm hn3
    · exact Nat.ne_of_gt (Nat.lt_succ_of_lt (Nat.lt_succ_of_lt h5))
    · exact Nat.ne_of_gt (Nat.lt_succ_of_lt h5)
    · exact hm3 q hq
theorem ci_some {vs : List Value} {l : List Nat} {i : Nat} {v : Value} (h : IntsAre vs (ci l)) (hv : vs[i]? = some v) : ∃ t, v = .int ((l.getD i 0 : Nat) : Int) t := by
  have hi : i < l.length := by
    have := (List.getElem?_eq_some_iff.mp hv).1
    rw [h.length] at this; simpa [ci] using this
  obtain ⟨t, e⟩ := ci_get h hi
  rw [hv] at e
  exact ⟨t, Option.some.inj e⟩
theorem natAbs_nat (n : Nat) : ((n : Nat) : Int).natAbs = n := by omega
theorem natAbs_neg (n : Nat) : (-((n : Nat) : Int)).natAbs = n := by omega
theorem off3_51 {I C D : Addr} {oI oC oD Tb : Obj} {rest : Led} (off : LCg.Off3 I C D ((51, Tb) :: rest)) : ∀ q ∈ [(I, oI), (C, oC), (D, oD)], q.1 ≠ 51 := by
  have o := off.mem _ (.head _)
  intro q hq
  rcases List.mem_cons.mp hq with rfl | hq
  · exact Ne.symm o.1
  · rcases List.mem_cons.mp hq with rfl | hq
    · exact Ne.symm o.2.1
    · rw [List.mem_singleton.mp hq]; exact Ne.symm o.2.2
end Mine

-- P3d
namespace Mine
open PySem.Calls PySem.Spec
section
variable {prog : Program} {w : World} {A : Around} {h₀ : Heap} {L : Addr} {m : Str → Option Value} {env : Env} {elt : PySem.Expr} {x : Str} {scope : Scope} {cl : List (Str × Addr)} {s : Shared} {S : List (Addr × Obj) → Prop} {Fin : List Value → List (Addr × Obj) → Prop}
theorem comp_images {vs : List Value} {l : List Nat} {R T cR cT Nn : Addr} {nn : Nat} {Tb : Obj} {rest : Led} (hints : IntsAre vs (ci l)) (hL : L3 R T cR cT Nn vs nn Tb rest)
    (turn : ∀ i tv Tb rest I oI C oC D m₂ ys h tk (E' : Value → Shared → Prop), L3 R T cR cT Nn vs nn Tb rest → LCg.NsObj oC m₂ → m₂ x = some (.int ((l.getD i 0 : Nat) : Int) tv) → Fr h₀ L h m → News h₀ L h ((I, oI) :: (C, oC) :: (D, LCg.lst ys) :: (51, Tb) :: rest) → LCg.Off3 I C D ((51, Tb) :: rest) → ((@Ne Nat I C) ∧ (@Ne Nat I D) ∧ (@Ne Nat C D)) →
      wpAny (model prog w) A (eval elt (compEnvC scope cl C env)) (LCg.CompEnd h₀ L m { s with heap := h, toks := tk } I oI C oC D (LCg.lst ys) S (fun y nw' => I3 R T cR cT Nn vs nn nw' ∧ ∃ t, y = .int ((img (l.getD i 0) : Nat) : Int) t)) E' { s with heap := h, toks := tk })
    (fin : ∀ ys Tb rest, L3 R T cR cT Nn vs nn Tb rest → IntsAre ys (ci (l.map img)) → Fin ys ((51, Tb) :: rest)) : LCg.CompRest prog w A h₀ L m env elt x scope cl s S (fun i v => vs.toArray[i]? = some v) Fin vs.toArray.size 0 [] ((51, Tb) :: rest) := by
  refine comp_inv (fun i => ((img (l.getD i 0) : Nat) : Int)) (I3 R T cR cT Nn vs nn) ⟨_, _, rfl, hL⟩ ?_ ?_
  · intro i v nw I oI C oC D m₂ ys h tk E' hv hI hC hx F N off ne
    obtain ⟨Tb, rest, rfl, hL⟩ := hI
    obtain ⟨t, rfl⟩ := ci_some hints hv
    exact turn i t Tb rest I oI C oC D m₂ ys h tk E' hL hC hx F N off ne
  · intro ys nw hI hi
    obtain ⟨Tb, rest, rfl, hL⟩ := hI
    refine fin ys Tb rest hL ?_
    have e : (List.range vs.length).map (fun i => ((img (l.getD i 0) : Nat) : Int)) = ci (l.map img) := by
      have hl : vs.length = l.length := by rw [hints.length]; simp [ci]
      rw [hl]
      refine List.ext_getElem (by simp [ci]) fun i h1 h2 => ?_
      have hi : i < l.length := by simpa using h1
      simp [ci, hi]
    rw [← e]; exact hi
end
end Mine

-- P3e
namespace Mine
open PySem.Calls PySem.Spec
section
variable {prog : Program} {w : World} {A : Around} {E : Value → Shared → Prop} {h₀ : Heap} {env : Env} {target : PySem.Expr} {body : List Stmt} {Q : Flow → Shared → Prop} {s : Shared} {ws : List (Addr × String)} {keep : Led} {m : Str → Option Value} {news : Led}
theorem unr_mono {L : Addr} {s₁ : Shared} {its : Led} {r1 r2 : (Str → Option Value) → Led → Prop} (h : ∀ m n, r1 m n → r2 m n) {f : Flow} {s₂ : Shared} (x : UnrPostW h₀ L s₁ its r1 Q f s₂) : UnrPostW h₀ L s₁ its r2 Q f s₂ := by
  have key : UnrEndW h₀ L s₁ its r1 s₂ → UnrEndW h₀ L s₁ its r2 s₂ := fun ⟨h', tk, m', n', e, F, N, o, r⟩ => ⟨h', tk, m', n', e, F, N, o, h _ _ r⟩
  cases f with
  | ret v => exact x
  | brk => exact x
  | next => exact key x
  | cont => exact key x
theorem allObj_mono : ∀ {ws : List (Addr × String)} {k k' : Led → Prop}, (∀ its, k its → k' its) → AllObj ws k → AllObj ws k'
  | [], _, _, h, x => h _ x
  | _ :: _, _, _, h, x => fun o hc => allObj_mono (fun its hk => h _ hk) (x o hc)
theorem fr_stored {L : Addr} {h : Heap} {m m₁ : Str → Option Value} {stored : List Str} (F : Fr h₀ L h m₁) (hm : ∀ z, stored.contains z = false → m₁ z = m z) : Fr h₀ L h (fun z => if stored.contains z then m₁ z else m z) := by
  have e : m₁ = fun z => if stored.contains z then m₁ z else m z := by
    funext z
    cases hc : stored.contains z with
    | true => simp
    | false => simp [hm z hc]
  rw [← e]; exact F
/-- a loop over a zip of two lists, by what holds of the ledger -/
theorem zip_items {xs ys : List Value} (Inv : Led → Prop) (stored : List Str) (hkeep : ∀ nw, Inv nw → SubL keep nw)
    (turn : ∀ (i : Nat) xv yv nw (u : Str → Option Value) T h tk, xs[i]? = some xv → ys[i]? = some yv → Inv nw → IsTup h T #[xv, yv] → Fr h₀ env.locals h (fun z => if stored.contains z then u z else m z) →
      AllObj ws (fun its => News h₀ env.locals h (its ++ nw) → wpAny (model prog w) A (assign target env (.ref T)) (fun _ s₂ => wpAny (model prog w) A (execs body env) (UnrPostW h₀ env.locals { s with heap := h, toks := tk } its (fun m' n' => Inv n' ∧ ∀ z, stored.contains z = false → m' z = m z) Q) E s₂) E { s with heap := h, toks := tk }))
    (done : ∀ nw (u : Str → Option Value) h tk, Inv nw → Fr h₀ env.locals h (fun z => if stored.contains z then u z else m z) → News h₀ env.locals h nw → Q .next { s with heap := h, toks := tk })
    (h0 : Inv news) : ItemsRest prog w A E h₀ env target body Q s ws keep (zipItems xs ys) m news := by
  have key : ∀ (as bs : List Value), (∀ (i : Nat) a b, as[i]? = some a → bs[i]? = some b → ∃ j : Nat, xs[j]? = some a ∧ ys[j]? = some b) → ∀ (m₁ : Str → Option Value) nw, (∀ z, stored.contains z = false → m₁ z = m z) → Inv nw → ItemsRest prog w A E h₀ env target body Q s ws keep (zipItems as bs) m₁ nw := by
    intro as
    induction as with
    | nil => intro bs _ m₁ nw hm hI; exact ItemsRest.zero fun h tk F N => done nw m₁ h tk hI (fr_stored F hm) N
    | cons a as ih =>
      intro bs hP m₁ nw hm hI
      cases bs with
      | nil => exact ItemsRest.zero fun h tk F N => done nw m₁ h tk hI (fr_stored F hm) N
      | cons b bs =>
        obtain ⟨j, hj1, hj2⟩ := hP 0 a b rfl rfl
        refine ItemsRest.pair fun T t h tk hT F => ?_
        refine allObj_mono (fun its hk N => ?_) (turn j a b nw m₁ T h tk hj1 hj2 hI hT (fr_stored F hm))
        refine wpAny_mono (hk N) (fun _ s₂ h₂ => wpAny_mono h₂ (fun f s₃ h₃ => unr_mono (fun m' n' r => ⟨hkeep _ r.1, ?_⟩) h₃) fun _ _ e => e) fun _ _ e => e
        exact ih bs (fun i x y hx hy => hP (i + 1) x y (by simpa using hx) (by simpa using hy)) m' n' r.2 r.1
  exact key xs ys (fun i a b h1 h2 => ⟨i, h1, h2⟩) m news (fun _ _ => rfl) h0
end
end Mine

-- P3f
namespace Mine
open PySem.Calls PySem.Spec
abbrev zAd (I : Nat) : List Nat := [I + 4, I + 2, I + 3, I, I + 1]
/-- the ledger between the turns of the first loop -/
def Z3 (R T cR cT Nn Im : Addr) (nvs ivs : List Value) (nn ni : Nat) (I : Nat) (nw : Led) : Prop :=
  ∃ Tb rest, nw = (51, Tb) :: rest ∧ L3 R T cR cT Nn nvs nn Tb rest ∧ (Im, listOf ivs.toArray ni) ∈ rest ∧ ∀ p ∈ nw, p.1 ∉ zAd I
theorem z3_start {h₀ h : Heap} {L Im : Addr} {R T cR cT Nn : Addr} {nvs zs : List Value} {nn : Nat} {Tb : Obj} {rest : Led} (N : News h₀ L h ((Im, LCg.lst zs) :: (51, Tb) :: rest)) (hL : L3 R T cR cT Nn nvs nn Tb rest) (ho : (@Ne Nat 51 Im) ∧ LCg.Off1 Im rest) :
    News h₀ L h ((51, Tb) :: ([(Im, LCg.lst zs)] ++ rest)) ∧ L3 R T cR cT Nn nvs nn Tb ([(Im, LCg.lst zs)] ++ rest) :=
  ⟨News.sub N fun p hp => by
    simp only [List.mem_cons, List.mem_append, List.not_mem_nil, or_false] at hp ⊢
    rcases hp with h | h | h <;> simp [h], hL.grow (hL.lam.mono fun p hp => List.mem_append_right _ hp) fun x hx => by rw [List.mem_singleton.mp hx]; exact Ne.symm ho.1⟩
theorem z3_0 {R T cR cT Nn Im : Addr} {nvs zs : List Value} {nn : Nat} {Tb : Obj} {rest : Led} {I : Nat} (hL : L3 R T cR cT Nn nvs nn Tb ([(Im, LCg.lst zs)] ++ rest)) (hI : ∀ p ∈ (51, Tb) :: ([(Im, LCg.lst zs)] ++ rest), p.1 < I) :
    Z3 R T cR cT Nn Im nvs zs nn zs.length I ((51, Tb) :: ([(Im, LCg.lst zs)] ++ rest)) := by
  refine ⟨Tb, _, rfl, hL, .head _, fun p hp hm => ?_⟩
  have h1 : p.1 < I := hI p hp
  simp only [zAd, List.mem_cons, List.not_mem_nil, or_false] at hm
  have : ∀ k, @Ne Nat p.1 (I + k) := fun k => Nat.ne_of_lt (Nat.lt_of_lt_of_le h1 (Nat.le_add_right _ k))
  rcases hm with h | h | h | h | h
  · exact this 4 h
  · exact this 2 h
  · exact this 3 h
  · exact this 0 h
  · exact this 1 h
theorem z3_keep {R T cR cT Nn Im : Addr} {nvs ivs : List Value} {nn ni I : Nat} {nw : Led} (h : Z3 R T cR cT Nn Im nvs ivs nn ni I nw) : SubL [(Nn, listOf nvs.toArray nn), (Im, listOf ivs.toArray ni)] nw := by
  obtain ⟨Tb, rest, rfl, hL, hi, _⟩ := h
  exact And.intro (.tail _ hL.num) (And.intro (.tail _ hi) trivial)
end Mine

-- P3g
namespace Mine
open PySem.Calls PySem.Spec
theorem ints5 {vs : List Value} {a b c d e : Int} (h : IntsAre vs [a, b, c, d, e]) : ∃ t1 t2 t3 t4 t5, vs = [.int a t1, .int b t2, .int c t3, .int d t4, .int e t5] := by
  cases h with
  | cons _ t1 h => cases h with
    | cons _ t2 h => cases h with
      | cons _ t3 h => cases h with
        | cons _ t4 h => cases h with
          | cons _ t5 h => cases h with
            | nil => exact ⟨t1, t2, t3, t4, t5, rfl⟩
theorem figs_vs {vs : List Value} {n : Nat} (h : IntsAre vs (figs n)) : ∃ t1 t2 t3 t4 t5, vs = [.int ((fig n 0 : Nat) : Int) t1, .int ((fig n 1 : Nat) : Int) t2, .int ((fig n 2 : Nat) : Int) t3, .int ((fig n 3 : Nat) : Int) t4, .int ((fig n 4 : Nat) : Int) t5] := ints5 h
theorem rev_ints {n : Nat} {t1 t2 t3 t4 t5 : Tok} : IntsAre [Value.int ((fig n 0 : Nat) : Int) t1, .int ((fig n 4 : Nat) : Int) t2, .int ((fig n 3 : Nat) : Int) t3, .int ((fig n 2 : Nat) : Int) t4, .int ((fig n 1 : Nat) : Int) t5] [((rev (vec n)).a : Int), ((rev (vec n)).b : Int), ((rev (vec n)).c : Int), ((rev (vec n)).d : Int), ((rev (vec n)).e : Int)] :=
  .cons _ _ (.cons _ _ (.cons _ _ (.cons _ _ (.cons _ _ .nil))))
theorem rev_ok (n : Nat) : (rev (vec n)).ok := by
  obtain ⟨h1, h2, h3, h4, h5⟩ := vec_ok n
  exact ⟨h1, h5, h4, h3, h2⟩
theorem map_getD (l : List Nat) (i : Nat) (h : i < l.length) : (l.map img).getD i 0 = img (l.getD i 0) := by
  simp [List.getD_eq_getElem?_getD, List.getElem?_eq_getElem h]
theorem off6 {Df : Addr} {I : Nat} {o o1 o2 o3 o4 o5 Tb : Obj} {rest : Led} (hoff : ∀ p ∈ (51, Tb) :: rest, p.1 ∉ zAd I) (hne : ∀ q ∈ (I + 4, o1) :: (I + 2, o2) :: (I + 3, o3) :: (I, o4) :: (I + 1, o5) :: (51, Tb) :: rest, q.1 ≠ Df) :
    ∀ q ∈ [(Df, o), (I + 4, o1), (I + 2, o2), (I + 3, o3), (I, o4), (I + 1, o5)], q.1 ≠ 51 := by
  have h1 := hne (51, Tb) (by simp)
  have h2 : 51 ∉ zAd I := hoff _ (.head _)
  intro q hq e
  rcases List.mem_cons.mp hq with rfl | hq
  · exact h1 e.symm
  · apply h2
    rw [← e]
    simp only [List.mem_cons, List.not_mem_nil, or_false] at hq
    rcases hq with rfl | rfl | rfl | rfl | rfl <;> simp [zAd]
end Mine

-- P3h
namespace Mine
open PySem.Calls PySem.Spec
theorem ints_nums {vs : List Value} {l : List Int} (h : IntsAre vs (List.map (fun k' : Int => (if k' < 0 then -k' else k').fmod (16 ^ Int.toNat 5)) l ++ [1043915, 694390, 344097])) : IntsAre vs (ci (nums l)) := nums_is l ▸ h
theorem nums_len (w : List Int) : (nums (List.take 4 w)).length ≤ 7 := by
  unfold nums
  simp
  omega
theorem nums_size {vs : List Value} {w : List Int} (h : IntsAre vs (ci (nums (List.take 4 w)))) : vs.toArray.size ≤ sizeLine := by
  have h1 := h.length
  have h2 := nums_len w
  simp only [ci, List.length_map] at h1
  rw [List.size_toArray, h1, sizeLine_eq]
  omega
end Mine

-- P3i
namespace Mine
open PySem.Calls PySem.Spec
theorem get_item {vs : List Value} {l : List Nat} {i : Nat} (h : IntsAre vs (ci l)) (hi : i < l.length) : ∃ t, vs[i]? = some (.int ((l.getD i 0 : Nat) : Int) t) := ci_get h hi
/-- one turn's pair of the first loop -/
theorem z_item {nvs ivs : List Value} {w : List Int} {i : Nat} {xv yv : Value} (hn : IntsAre nvs (ci (nums (List.take 4 w)))) (hi : IntsAre ivs (ci ((nums (List.take 4 w)).map img))) (hx : nvs[i]? = some xv) (hy : ivs[i]? = some yv) :
    ∃ (n j : Nat) (t1 t2 : Tok), xv = .int ((n : Nat) : Int) t1 ∧ yv = .int ((j : Nat) : Int) t2 ∧ n < 1048576 ∧ j < 1048576 ∧ j = img n := by
  have hl : i < (nums (List.take 4 w)).length := by
    have := (List.getElem?_eq_some_iff.mp hx).1
    rw [hn.length] at this; simpa [ci] using this
  obtain ⟨t1, e1⟩ := ci_some hn hx
  obtain ⟨t2, e2⟩ := ci_some hi hy
  rw [map_getD _ _ hl] at e2
  exact ⟨_, _, t1, t2, e1, e2, getD_lt (nums_lt _) _, img_lt _, rfl⟩
/-- what a call of _law_image leaves, its value a letter -/
def ImgQ (R T cR cT Nn : Addr) (nvs : List Value) (nn : Nat) (pre : Led) (Tb : Obj) (rest : Led) (N : Nat) (r : Value) (n : Led) : Prop :=
  ∃ (q : Nat) (t : Tok) (T' : Obj) (extra : Led), r = .int ((q : Nat) : Int) t ∧ n = pre ++ (51, T') :: (extra ++ rest) ∧ q = img N ∧ q < 1048576 ∧ L3 R T cR cT Nn nvs nn T' (extra ++ rest) ∧ ∀ x ∈ extra, ∀ y ∈ pre ++ (51, Tb) :: rest, y.1 < x.1
section
variable {w : World} {p : Program} {loose : List Str} {mean : ExcName → Option Value} {mg mb : Str → Option Value} {R T cR cT Nn : Addr} {nvs : List Value} {nn : Nat} {Tb : Obj} {rest : Led} {a1 a2 a3 a4 a5 a6 a7 : Addr} {o1 o2 o3 o4 o5 o6 o7 : Obj} {n : Int} {N : Nat} {tn : Tok}
theorem image_at (pre : Led) (h : L3 R T cR cT Nn nvs nn Tb rest) (hpre : ∀ q ∈ pre, q.1 ≠ 51) (hnN : n.natAbs = N) (hN : N < 1048576) :
    FnSpec Challenge.rw_nq0005_03.row.prog w (hd.heap_39 w.params) p loose mean mg mb (.ref 56) [.ref R, .int n tn] 3 32 (pre ++ (51, Tb) :: rest) (ImgQ R T cR cT Nn nvs nn pre Tb rest N) := by
  refine (image_pre pre h hpre n N tn hnN hN).mono (fun _ h => h) (Nat.le_refl _) (Nat.le_refl _) fun r m hR => ⟨m, fun _ h => h, ?_⟩
  obtain ⟨t, T', extra, h1, h2, h3, h4⟩ := hR
  exact ⟨_, t, T', extra, h1, h2, rfl, img_lt _, h3, h4⟩
theorem image1 (h : L3 R T cR cT Nn nvs nn Tb rest) (hpre : ∀ q ∈ [(a1, o1)], q.1 ≠ 51) (hnN : n.natAbs = N) (hN : N < 1048576) :
    FnSpec Challenge.rw_nq0005_03.row.prog w (hd.heap_39 w.params) p loose mean mg mb (.ref 56) [.ref R, .int n tn] 3 32 ((a1, o1) :: (51, Tb) :: rest) (ImgQ R T cR cT Nn nvs nn [(a1, o1)] Tb rest N) :=
  image_at [(a1, o1)] h hpre hnN hN
theorem image6 (h : L3 R T cR cT Nn nvs nn Tb rest) (hpre : ∀ q ∈ [(a1, o1), (a2, o2), (a3, o3), (a4, o4), (a5, o5), (a6, o6)], q.1 ≠ 51) (hnN : n.natAbs = N) (hN : N < 1048576) :
    FnSpec Challenge.rw_nq0005_03.row.prog w (hd.heap_39 w.params) p loose mean mg mb (.ref 56) [.ref R, .int n tn] 3 32 ((a1, o1) :: (a2, o2) :: (a3, o3) :: (a4, o4) :: (a5, o5) :: (a6, o6) :: (51, Tb) :: rest) (ImgQ R T cR cT Nn nvs nn [(a1, o1), (a2, o2), (a3, o3), (a4, o4), (a5, o5), (a6, o6)] Tb rest N) :=
  image_at [(a1, o1), (a2, o2), (a3, o3), (a4, o4), (a5, o5), (a6, o6)] h hpre hnN hN
theorem image7 (h : L3 R T cR cT Nn nvs nn Tb rest) (hpre : ∀ q ∈ [(a1, o1), (a2, o2), (a3, o3), (a4, o4), (a5, o5), (a6, o6), (a7, o7)], q.1 ≠ 51) (hnN : n.natAbs = N) (hN : N < 1048576) :
    FnSpec Challenge.rw_nq0005_03.row.prog w (hd.heap_39 w.params) p loose mean mg mb (.ref 56) [.ref R, .int n tn] 3 32 ((a1, o1) :: (a2, o2) :: (a3, o3) :: (a4, o4) :: (a5, o5) :: (a6, o6) :: (a7, o7) :: (51, Tb) :: rest) (ImgQ R T cR cT Nn nvs nn [(a1, o1), (a2, o2), (a3, o3), (a4, o4), (a5, o5), (a6, o6), (a7, o7)] Tb rest N) :=
  image_at [(a1, o1), (a2, o2), (a3, o3), (a4, o4), (a5, o5), (a6, o6), (a7, o7)] h hpre hnN hN
theorem number_q (news : Led) (D : Addr) (vs : List Value) (nn : Nat) (v : V) (hv : v.ok) (hD : (D, listOf vs.toArray nn) ∈ news) (hi : IntsAre vs (ci v.l)) :
    FnSpec Challenge.rw_nq0005_03.row.prog w (hd.heap_39 w.params) p loose mean mg mb (.ref 66) [.ref D] 1 8 news (fun r n' => ∃ (q : Nat) (t : Tok), r = .int ((q : Nat) : Int) t ∧ n' = news ∧ q = num v ∧ q < 1048576) := by
  refine (number_spec news D vs nn v hv hD hi).mono (fun _ h => h) (Nat.le_refl _) (Nat.le_refl _) fun r m hR => ⟨m, fun _ h => h, ?_⟩
  obtain ⟨⟨t, h1⟩, h2⟩ := hR
  exact ⟨_, t, h1, h2, rfl, num_lt hv⟩
end
section
variable {prog : Program} {w : World} {A : Around} {E : Value → Shared → Prop} {s : Shared}
theorem ne_nat {a b : Nat} {t u : Tok} {Q : Value → Shared → Prop} (e : a = b) (h : Q (.bool false) s) : wpAny (model prog w) A (compareOp .NotEq (.int (a : Int) t) (.int (b : Int) u)) Q E s := by
  subst e
  refine ne_int ?_
  rw [show ((a : Int) != (a : Int)) = false by simp]; exact h
theorem first_eq {n j q q2 : Nat} (h1 : q = img j) (h2 : q2 = num (rev (vec n))) (h3 : j = img n) : q = q2 := by
  rw [h1, h2, h3, img_img]
end
/-- the end of a turn of the first loop -/
theorem z3_turn {h₀ h' : Heap} {L : Addr} {m m' : Str → Option Value} {s₁ : Shared} {stored : List Str} {R T cR cT Nn Im : Addr} {nvs ivs : List Value} {nn ni : Nat} {I : Nat} {o1 o2 o3 o4 o5 Tb T' : Obj} {rest extra all : Led} {pre : Led} {tk : Nat}
    (F : Fr h₀ L h' m') (N : News h₀ L h' all) (hs : ∀ q ∈ (I + 4, o1) :: (I + 2, o2) :: (I + 3, o3) :: (I, o4) :: (I + 1, o5) :: (51, T') :: (extra ++ rest), q ∈ all)
    (hL : L3 R T cR cT Nn nvs nn T' (extra ++ rest)) (him : (Im, listOf ivs.toArray ni) ∈ rest) (hoff : ∀ p ∈ (51, Tb) :: rest, p.1 ∉ zAd I)
    (hx : ∀ x ∈ extra, ∀ y ∈ pre ++ (51, Tb) :: rest, y.1 < x.1) (hp : ∀ k ∈ zAd I, ∃ o, (k, o) ∈ pre) (hm : ∀ z, stored.contains z = false → m' z = m z) :
    UnrEndW h₀ L s₁ [(I + 4, o1), (I + 2, o2), (I + 3, o3), (I, o4), (I + 1, o5)] (fun m' n' => Z3 R T cR cT Nn Im nvs ivs nn ni I n' ∧ ∀ z, stored.contains z = false → m' z = m z) { s₁ with heap := h', toks := tk } := by
  have off : ∀ p ∈ (51, T') :: (extra ++ rest), p.1 ∉ zAd I := fun p hp' => by
    rcases List.mem_cons.mp hp' with rfl | hp'
    · exact hoff (51, Tb) (.head _)
    · rcases List.mem_append.mp hp' with hp' | hp'
      · intro hk
        obtain ⟨o, ho⟩ := hp _ hk
        have := hx p hp' _ (List.mem_append_left _ ho)
        exact absurd this (Nat.lt_irrefl _)
      · exact hoff p (.tail _ hp')
  refine ⟨h', tk, m', (51, T') :: (extra ++ rest), rfl, F, News.sub N hs, fun p hp' q hq e => off p hp' ?_, ⟨T', _, rfl, hL, List.mem_append_right _ him, off⟩, hm⟩
  rw [e]
  simp only [List.mem_cons, List.not_mem_nil, or_false] at hq
  rcases hq with rfl | rfl | rfl | rfl | rfl <;> simp [zAd]
end Mine

-- P3j
namespace Mine
open PySem.Calls PySem.Spec
theorem ne51 {news : Led} {D : Addr} {Tb : Obj} (h : ∀ q ∈ news, q.1 ≠ D) (hm : (51, Tb) ∈ news) : @Ne Nat 51 D := h _ hm
theorem off_one {a : Addr} {o : Obj} (h : @Ne Nat 51 a) : ∀ q ∈ [(a, o)], q.1 ≠ 51 := fun q hq => by
  rw [List.mem_singleton.mp hq]; exact Ne.symm h
theorem off_cons {a : Addr} {o : Obj} {l : Led} (h : @Ne Nat 51 a) (hl : ∀ q ∈ l, q.1 ≠ 51) : ∀ q ∈ (a, o) :: l, q.1 ≠ 51 := fun q hq => by
  rcases List.mem_cons.mp hq with rfl | hq
  · exact Ne.symm h
  · exact hl q hq
theorem off_7 {a1 a2 a3 a4 a5 a6 a7 : Addr} {o1 o2 o3 o4 o5 o6 o7 : Obj} (h1 : @Ne Nat 51 a1) (h2 : @Ne Nat 51 a2) (h3 : @Ne Nat 51 a3) (h4 : @Ne Nat 51 a4) (h5 : @Ne Nat 51 a5) (h6 : @Ne Nat 51 a6) (h7 : @Ne Nat 51 a7) :
    ∀ q ∈ [(a1, o1), (a2, o2), (a3, o3), (a4, o4), (a5, o5), (a6, o6), (a7, o7)], q.1 ≠ 51 :=
  off_cons h1 (off_cons h2 (off_cons h3 (off_cons h4 (off_cons h5 (off_cons h6 (off_one h7))))))
theorem tab_figs {D : Addr} {vs : List Value} {nn n : Nat} {news : Led} (hm : (D, listOf vs.toArray nn) ∈ news) (h : IntsAre vs (figs n)) : TabAt D (ci (vec n).l) news := ⟨vs, nn, hm, h⟩
theorem sub4 {rest : Led} {a b c d : Addr × Obj} : ∀ p ∈ rest, p ∈ a :: b :: c :: d :: rest := fun _ h => .tail _ (.tail _ (.tail _ (.tail _ h)))
theorem second_eq {q a b p1 q1 : Nat} (h1 : q = img (a ^^^ b)) (h2 : p1 = img a) (h3 : q1 = img b) : q = p1 ^^^ q1 := by
  rw [h1, h2, h3, img_xor]
theorem z_pre {Df : Addr} {I : Nat} {o o1 o2 o3 o4 o5 : Obj} : ∀ k ∈ zAd I, ∃ o', (k, o') ∈ [(Df, o), (I + 4, o1), (I + 2, o2), (I + 3, o3), (I, o4), (I + 1, o5)] := fun k hk => by
  simp only [zAd, List.mem_cons, List.not_mem_nil, or_false] at hk
  rcases hk with rfl | rfl | rfl | rfl | rfl
  · exact ⟨o1, .tail _ (.head _)⟩
  · exact ⟨o2, .tail _ (.tail _ (.head _))⟩
  · exact ⟨o3, .tail _ (.tail _ (.tail _ (.head _)))⟩
  · exact ⟨o4, .tail _ (.tail _ (.tail _ (.tail _ (.head _))))⟩
  · exact ⟨o5, .tail _ (.tail _ (.tail _ (.tail _ (.tail _ (.head _)))))⟩
/-- neighbours, as the second loop reads them -/
def JF (nvs ivs : List Value) (K : Nat) : Prop :=
  ∀ i, i < K - 1 → ∃ (a b p q : Nat) (t1 t2 t3 t4 : Tok), nvs[i]? = some (.int (a : Int) t1) ∧ nvs[i + 1]? = some (.int (b : Int) t2) ∧ ivs[i]? = some (.int (p : Int) t3) ∧ ivs[i + 1]? = some (.int (q : Int) t4) ∧
    a < 1048576 ∧ b < 1048576 ∧ p < 1048576 ∧ q < 1048576 ∧ p = img a ∧ q = img b
theorem JF.get {nvs ivs : List Value} {K i : Nat} (h : JF nvs ivs K) (hi : i < K - 1) : ∃ (a b p q : Nat) (t1 t2 t3 t4 : Tok), nvs[(1 + (i : Int) * 1 - 1).toNat]? = some (.int (a : Int) t1) ∧ nvs[(1 + (i : Int) * 1).toNat]? = some (.int (b : Int) t2) ∧
    ivs[(1 + (i : Int) * 1 - 1).toNat]? = some (.int (p : Int) t3) ∧ ivs[(1 + (i : Int) * 1).toNat]? = some (.int (q : Int) t4) ∧ a < 1048576 ∧ b < 1048576 ∧ p < 1048576 ∧ q < 1048576 ∧ p = img a ∧ q = img b := by
  rw [show (1 + (i : Int) * 1 - 1).toNat = i by omega, show (1 + (i : Int) * 1).toNat = i + 1 by omega]
  exact h i hi
theorem num_len {nvs ivs : List Value} {w : List Int} (hn : IntsAre nvs (ci (nums (List.take 4 w)))) (hi : IntsAre ivs (ci ((nums (List.take 4 w)).map img))) :
    ∃ K : Nat, nvs.toArray.size = K ∧ 3 ≤ K ∧ K ≤ 7 ∧ JF nvs ivs K := by
  have hl : nvs.length = (nums (List.take 4 w)).length := by rw [hn.length]; simp [ci]
  have h7 := nums_len w
  have h3 : 3 ≤ (nums (List.take 4 w)).length := by unfold nums; simp
  refine ⟨nvs.length, by simp, by omega, by omega, fun i hi' => ?_⟩
  have hA : i < (nums (List.take 4 w)).length := by omega
  have hB : i + 1 < (nums (List.take 4 w)).length := by omega
  obtain ⟨t1, e1⟩ := ci_get hn hA
  obtain ⟨t2, e2⟩ := ci_get hn hB
  obtain ⟨t3, e3⟩ := ci_get hi (by rw [List.length_map]; exact hA)
  obtain ⟨t4, e4⟩ := ci_get hi (by rw [List.length_map]; exact hB)
  exact ⟨_, _, _, _, t1, t2, t3, t4, e1, e2, e3, e4, getD_lt (nums_lt _) _, getD_lt (nums_lt _) _, by rw [map_getD _ _ hA]; exact img_lt _, by rw [map_getD _ _ hB]; exact img_lt _, map_getD _ _ hA, map_getD _ _ hB⟩
theorem small_K {K : Nat} (h : K ≤ 7) : Builtin.Range.small 1 (K : Int) 1 = true := by
  have : ∀ f : Fin 8, Builtin.Range.small 1 ((f.1 : Nat) : Int) 1 = true := by decide +kernel
  exact this ⟨K, by omega⟩
theorem size_K {K : Nat} (h7 : K ≤ 7) : Builtin.Range.rangeSize 1 (K : Int) 1 = ((K - 1 : Nat) : Int) := by
  have : ∀ f : Fin 8, Builtin.Range.rangeSize 1 ((f.1 : Nat) : Int) 1 = ((f.1 - 1 : Nat) : Int) := by decide +kernel
  exact this ⟨K, by omega⟩
/-- the ledger between the turns of the second loop -/
def J3 (R T cR cT Nn Im : Addr) (nvs ivs : List Value) (nn ni : Nat) (nw : Led) : Prop :=
  ∃ Tb rest, nw = (51, Tb) :: rest ∧ L3 R T cR cT Nn nvs nn Tb rest ∧ (Im, listOf ivs.toArray ni) ∈ rest
theorem j3_0 {R T cR cT Nn Im : Addr} {nvs ivs : List Value} {nn ni K : Nat} {Tb : Obj} {rest : Led} (_ : JF nvs ivs K) (hL : L3 R T cR cT Nn nvs nn Tb rest) (him : (Im, listOf ivs.toArray ni) ∈ rest) : J3 R T cR cT Nn Im nvs ivs nn ni ((51, Tb) :: rest) := ⟨_, _, rfl, hL, him⟩
theorem j3_grown {R T cR cT Nn Im : Addr} {nvs ivs : List Value} {nn ni : Nat} {h₀ h : Heap} {L : Addr} {nw : Led} (hJ : J3 R T cR cT Nn Im nvs ivs nn ni nw) (N : News h₀ L h nw) : GrownAll [(55, 51)] h := by
  obtain ⟨Tb, rest, rfl, hL, _⟩ := hJ
  obtain ⟨p1, e1⟩ : ∃ p, Tb = tabObj p := by
    rcases hL.lam with e | ⟨c, oc, vs, t, e, _⟩
    · exact ⟨_, e⟩
    · exact ⟨_, e⟩
  subst e1
  exact ⟨GrownAt.of N (.head _), trivial⟩
/-- the end of a turn of the second loop -/
theorem j3_turn {h₀ : Heap} {L I : Addr} {oI : Obj} {s : Shared} {x : Str} {stored : List Str} {m₀ m' : Str → Option Value} {Q : Flow → Shared → Prop} {R T cR cT Nn Im : Addr} {nvs ivs : List Value} {nn ni : Nat} {T1 T2 Tb : Obj} {rest ex1 ex2 big pre1 pre2 : Led} {h' : Heap} {tk : Nat}
    (hL : L3 R T cR cT Nn nvs nn T2 (ex2 ++ (ex1 ++ rest))) (him : (Im, listOf ivs.toArray ni) ∈ rest) (hnI : ∀ q ∈ (51, Tb) :: rest, q.1 ≠ I)
    (hx1 : ∀ x ∈ ex1, ∀ y ∈ pre1 ++ (51, Tb) :: rest, y.1 < x.1) (hp1 : ∃ o, (I, o) ∈ pre1) (hx2 : ∀ x ∈ ex2, ∀ y ∈ pre2 ++ (51, T1) :: (ex1 ++ rest), y.1 < x.1) (hp2 : ∃ o, (I, o) ∈ pre2)
    (F : Fr h₀ L h' m') (N : News h₀ L h' big) (hs : ∀ p ∈ (I, oI) :: (51, T2) :: (ex2 ++ (ex1 ++ rest)), p ∈ big)
    (hr : ∀ z, z ≠ x → (∀ p ∈ ([] : List (Str × Value)), z ≠ p.1) → stored.contains z = false → m' z = m₀ z) :
    ITurn h₀ L I oI s x (fun _ : Unit => []) stored m₀ (fun _ nx => J3 R T cR cT Nn Im nvs ivs nn ni nx) Q .next { s with heap := h', toks := tk } := by
  refine iturn_next () ((51, T2) :: (ex2 ++ (ex1 ++ rest))) F (News.sub N hs) (fun q hq => ?_) (fun _ h => nomatch h) hr ⟨_, _, rfl, hL, List.mem_append_right _ (List.mem_append_right _ him)⟩
  rcases List.mem_cons.mp hq with rfl | hq
  · exact hnI (51, Tb) (.head _)
  · rcases List.mem_append.mp hq with hq | hq
    · obtain ⟨o, ho⟩ := hp2
      exact Nat.ne_of_gt (hx2 q hq _ (List.mem_append_left _ ho))
    · rcases List.mem_append.mp hq with hq | hq
      · obtain ⟨o, ho⟩ := hp1
        exact Nat.ne_of_gt (hx1 q hq _ (List.mem_append_left _ ho))
      · exact hnI q (.tail _ hq)
section
variable {prog : Program} {w : World} {A : Around} {E : Value → Shared → Prop} {s : Shared} {h₀ : Heap} {L : Addr} {news : Led}
/-- figures against what is due -/
theorem ne_third {Da Db : Addr} {xs ys : List Value} {n1 n2 k q a b p1 q1 : Nat} {gs : List Int} {Q : Value → Shared → Prop} (N : News h₀ L s.heap news) (ha : (Da, listOf xs.toArray n1) ∈ news) (hb : (Db, listOf ys.toArray n2) ∈ news)
    (hi : IntsAre xs (figs q)) (hj : IntsAre ys gs) (hg : gs = ci (dot (vec p1) (vec q1)).l) (hq : q = img k) (hk : k = num (ring (vec a) (vec b))) (hp : p1 = img a) (hq1 : q1 = img b) (hu : A.units + 64 < cLine) (h : Q (.bool false) s) :
    wpAny (model prog w) A (compareOp .NotEq (.ref Da) (.ref Db)) Q E s := by
  refine ke_ne_ints ⟨_, (N _ ha).1, rfl, n1, rfl⟩ ⟨_, (N _ hb).1, rfl, n2, rfl⟩ hi hj hu ?_
  have e : figs q = ci (vec q).l := rfl
  have e2 : figs q = gs := by rw [e, hq, hk, img_ring, hg, hp, hq1]
  rw [e2]; simpa using h
end
/-- the number of a product round the ring -/
theorem number_ring {w : World} {p : Program} {loose : List Str} {mean : ExcName → Option Value} {mg mb : Str → Option Value} (news : Led) (D : Addr) (vs : List Value) (nn : Nat) (v u : V) (hu : u.ok) (hD : (D, listOf vs.toArray nn) ∈ news) (hi : IntsAre vs (ci (ring v u).l)) :
    FnSpec Challenge.rw_nq0005_03.row.prog w (hd.heap_39 w.params) p loose mean mg mb (.ref 66) [.ref D] 1 8 news (fun r n' => ∃ (q : Nat) (t : Tok), r = .int ((q : Nat) : Int) t ∧ n' = news ∧ q = num (ring v u) ∧ q < 1048576) :=
  number_q news D vs nn (ring v u) (ring_ok hu) hD hi
end Mine

-- P3k
namespace Mine
open PySem.Calls PySem.Spec
section
variable {prog : Program} {w : World} {A : Around} {E : Value → Shared → Prop} {s : Shared} {h₀ : Heap} {L : Addr} {m : Str → Option Value} {env : Env}
/-- the end of a turn of a comprehension over a zip -/
def ZEnd (h₀ : Heap) (L : Addr) (m : Str → Option Value) (s₁ : Shared) (big : Led) (r : Int) (y : Value) (s' : Shared) : Prop :=
  ∃ h' tk' t, s' = { s₁ with heap := h', toks := tk' } ∧ y = .int r t ∧ Fr h₀ L h' m ∧ News h₀ L h' big
theorem zend_of {s₁ : Shared} {big : Led} {r : Int} {t : Tok} {h' : Heap} {tk' : Nat} (F : Fr h₀ L h' m) (N : News h₀ L h' big) : ZEnd h₀ L m s₁ big r (.int r t) { s₁ with heap := h', toks := tk' } := ⟨h', tk', t, rfl, rfl, F, N⟩
theorem zip_assignF {elt iter : PySem.Expr} {x x₂ y : Str} {px px₂ tp py : Pos} {kt : Nat} {scope : Scope} {cl : List (Str × Addr)} {pos spos : Pos} {Q : Flow → Shared → Prop} (_ : Fr h₀ L s.heap m) (hLe : env.locals = L)
    (hsw : swapsWith (.ListComp elt [⟨.Tuple [.Name x px, .Name x₂ px₂] kt tp, iter, [], 0⟩] scope pos) (some (.Name y py)) spos.line env = pure true)
    (hclos : closureFor scope env = pure cl) (hcell : ∀ q ∈ scope.names, q.2 ≠ .cell) (hkind : scope.kind = .function)
    (hnames : ∀ q ∈ scope.names, q.2 = .local → scope.names.lookup q.1 = some .local) (hx : scope.names.lookup x = some .local) (hx₂ : scope.names.lookup x₂ = some .local) (hxx : x ≠ x₂)
    (hy : env.kindOf y = some .local) (hp : (env.scope.kind == .class || (env.scope.kind == .module && env.locals != env.globals)) = false)
    (h : wpAny (model prog w) A (eval iter env) (ZAt prog w A h₀ L m env elt x x₂ y scope cl Q) E s)
    (hs : ∀ x, foldedSetIterable iter env x = pure x := by intro _; rfl) :
    wpAny (model prog w) A (exec (.Assign [.Name y py] (.ListComp elt [⟨.Tuple [.Name x px, .Name x₂ px₂] kt tp, iter, [], 0⟩] scope pos) spos) env) Q E s :=
  zip_assign hLe hsw hclos hcell hkind hnames hx hx₂ hxx hy hp h hs
theorem zat_figs {elt : PySem.Expr} {x x₂ y : Str} {scope : Scope} {cl : List (Str × Addr)} {Q : Flow → Shared → Prop} {s₁ : Shared} {B l1 l2 : Nat} {xs ys : List Value} {n1 n2 p q : Nat} {o1 o2 : Obj} {news : Led}
    (hh : A.handled = none) (F : Fr h₀ L s₁.heap m)
    (N : News h₀ L s₁.heap ((B + 4, zipO (B + 2) (B + 3)) :: (B + 2, tupO [.ref B, .ref (B + 1)]) :: (B + 3, tupO [.none, .none]) :: (B, o1) :: (B + 1, o2) :: news))
    (hc1 : o1.cls = .type "list_iterator") (hd1 : o1.data = .fields #[.ref l1, .int 0 0]) (hc2 : o2.cls = .type "list_iterator") (hd2 : o2.data = .fields #[.ref l2, .int 0 0]) (hB : ∀ p ∈ news, p.1 < B)
    (hl1 : (l1, listOf xs.toArray n1) ∈ news) (hl2 : (l2, listOf ys.toArray n2) ∈ news) (hi1 : IntsAre xs (figs p)) (hi2 : IntsAre ys (figs q))
    (turn : ∀ (i a b : Nat) t1 t2 own C oC D m₂ zs h tk (E' : Value → Shared → Prop), a < 16 → b < 16 → a = (vec p).l.getD i 0 → b = (vec q).l.getD i 0 → LCg.NsObj oC m₂ → m₂ x = some (.int (a : Int) t1) → m₂ x₂ = some (.int (b : Int) t2) → Fr h₀ L h m → News h₀ L h ((C, oC) :: (D, LCg.lst zs) :: (own ++ news)) →
      wpAny (model prog w) A (eval elt (compEnvC scope cl C env)) (ZEnd h₀ L m s₁ ((C, oC) :: (D, LCg.lst zs) :: (own ++ news)) ((gm a b : Nat) : Int)) E' { s₁ with heap := h, toks := tk })
    (fin : ∀ zs D h tk, IntsAre zs (ci (dot (vec p) (vec q)).l) → Fr h₀ L h (fun q => if q = y then some (.ref D) else m q) → News h₀ L h ((D, LCg.lst zs) :: news) → (∀ p ∈ news, p.1 ≠ D) → Q .next { s₁ with heap := h, toks := tk }) :
    ZAt prog w A h₀ L m env elt x x₂ y scope cl Q (.ref (B + 4)) s₁ := by
  have lx : xs.length = 5 := by rw [hi1.length]; rfl
  have ly : ys.length = 5 := by rw [hi2.length]; rfl
  have ne : ∀ {j k : Nat}, j ≠ k → @Ne Nat (B + j) (B + k) := fun h => by omega
  have ne0 : ∀ {j : Nat}, j ≠ 0 → @Ne Nat (B + j) B := fun h => by omega
  have l1B : l1 < B := hB _ hl1
  have l2B : l2 < B := hB _ hl2
  have up1 : ∀ j : Nat, @Ne Nat l1 (B + j) := fun j => Nat.ne_of_lt (Nat.lt_of_lt_of_le l1B (Nat.le_add_right _ j))
  have up2 : ∀ j : Nat, @Ne Nat l2 (B + j) := fun j => Nat.ne_of_lt (Nat.lt_of_lt_of_le l2B (Nat.le_add_right _ j))
  have N' : News h₀ L s₁.heap news := News.sub N fun p hp => .tail _ (.tail _ (.tail _ (.tail _ (.tail _ hp))))
  have m0 := N (B + 4, zipO (B + 2) (B + 3)) (.head _)
  have m1 := N (B + 2, tupO [.ref B, .ref (B + 1)]) (.tail _ (.head _))
  have m2 := N (B + 3, tupO [.none, .none]) (.tail _ (.tail _ (.head _)))
  have m3 := N (B, o1) (.tail _ (.tail _ (.tail _ (.head _))))
  have m4 := N (B + 1, o2) (.tail _ (.tail _ (.tail _ (.tail _ (.head _)))))
  refine ⟨B + 4, B + 2, B + 3, B, B + 1, l1, l2, xs, ys, news, fun i => ((gm ((vec p).l.getD i 0) ((vec q).l.getD i 0) : Nat) : Int), rfl, ⟨hh, ?_, F, N', ?_, ?_, ?_, ⟨_, hl1⟩, ⟨_, hl2⟩, by omega, ?_⟩, ?_⟩
  · constructor <;> first | exact ne (by decide) | exact ne0 (by decide) | exact Ne.symm (ne0 (by decide)) | exact Ne.symm (up1 _) | exact Ne.symm (up2 _) | exact up1 _ | exact up2 _ | exact up1 0 | exact up2 0 | exact Ne.symm (up1 0) | exact Ne.symm (up2 0)
  · exact ⟨m0.1, m1.1, ⟨_, _, m2.1⟩, ⟨_, m3.1, hc1, hd1⟩, ⟨_, m4.1, hc2, hd2⟩, ⟨_, (N' _ hl1).1, rfl, n1, rfl⟩, ⟨_, (N' _ hl2).1, rfl, n2, rfl⟩⟩
  · intro p hp hm
    have h1 : p.1 < B := hB p hp
    have up : ∀ j : Nat, @Ne Nat p.1 (B + j) := fun j => Nat.ne_of_lt (Nat.lt_of_lt_of_le h1 (Nat.le_add_right _ j))
    simp only [List.mem_cons, List.not_mem_nil, or_false] at hm
    rcases hm with h | h | h | h | h
    · exact up 4 h
    · exact up 2 h
    · exact up 3 h
    · exact up 0 h
    · exact up 1 h
  · intro b hb
    simp only [List.mem_cons, List.not_mem_nil, or_false] at hb
    rcases hb with rfl | rfl | rfl | rfl | rfl
    · exact ⟨m0.2.2, m0.2.1⟩
    · exact ⟨m1.2.2, m1.2.1⟩
    · exact ⟨m2.2.2, m2.2.1⟩
    · exact ⟨m3.2.2, m3.2.1⟩
    · exact ⟨m4.2.2, m4.2.1⟩
  · intro i xv yv own C oC D m₂ zs h tk E' hxv hyv hC hmx hmy F' N''
    have hi : i < 5 := by rw [← lx]; exact (List.getElem?_eq_some_iff.mp hxv).1
    obtain ⟨t1, e1⟩ := ci_get (l := (vec p).l) hi1 hi
    obtain ⟨t2, e2⟩ := ci_get (l := (vec q).l) hi2 hi
    rw [hxv] at e1
    rw [hyv] at e2
    rw [Option.some.inj e1] at hmx
    rw [Option.some.inj e2] at hmy
    exact turn i _ _ t1 t2 own C oC D m₂ zs h tk E' (vl_lt (vec_ok p) i) (vl_lt (vec_ok q) i) rfl rfl hC hmx hmy F' N''
  · intro zs D h tk hz
    refine fin zs D h tk ?_
    rw [lx, ly] at hz
    exact hz
end
end Mine

open Mine
local macro_rules | `(tactic| walk_at "use mult") => `(tactic| (k_here; with_unfolding_all refine' FnSpec.use (mult_spec _) ?k1 ?k2 ?k3 ?k4 ?k5 ?kK ?kd ?ku ?_; (case k4 => k_asm); (case k1 => k_asm); (case k2 => k_asm); (case k3 => k_asm); (case k5 => k_asm); (case kK => first | exact rfl | assumption); (case kd => ktr_room); (case ku => ktr_units)))
local macro_rules | `(tactic| walk_at "use turns") => `(tactic| (k_here; with_unfolding_all refine' FnSpec.use (turns_spec _ _ ?h1) ?k1 ?k2 ?k3 ?k4 ?k5 ?kK ?kd ?ku ?_; (case k4 => k_asm); (case k1 => k_asm); (case k2 => k_asm); (case k3 => k_asm); (case k5 => k_asm); (case kK => first | exact rfl | assumption); (case kd => ktr_room); (case ku => ktr_units); (case h1 => (exact rows_up (by assumption)))))
local macro_rules | `(tactic| walk_at "use figures") => `(tactic| (k_here; with_unfolding_all refine' FnSpec.use (figures_spec _ _ _ ?h1) ?k1 ?k2 ?k3 ?k4 ?k5 ?kK ?kd ?ku ?_; (case k4 => k_asm); (case k1 => k_asm); (case k2 => k_asm); (case k3 => k_asm); (case k5 => k_asm); (case kK => first | exact rfl | assumption); (case kd => ktr_room); (case ku => ktr_units); (case h1 => (assumption))))
local macro_rules | `(tactic| walk_at "use number1") => `(tactic| (k_here; with_unfolding_all refine' FnSpec.use (number_q _ _ _ _ (rev (vec _)) ?h1 ?h2 ?h3) ?k1 ?k2 ?k3 ?k4 ?k5 ?kK ?kd ?ku ?_; (case k4 => k_asm); (case k1 => k_asm); (case k2 => k_asm); (case k3 => k_asm); (case k5 => k_asm); (case kK => first | exact rfl | assumption); (case kd => ktr_room); (case ku => ktr_units); (case h1 => (exact rev_ok _)); (case h2 => (exact List.mem_cons_self)); (case h3 => (exact rev_ints))))
local macro_rules | `(tactic| walk_at "use image6") => `(tactic| (k_here; with_unfolding_all refine' FnSpec.use (image6 ?hL ?hp ?hn ?hN) ?k1 ?k2 ?k3 ?k4 ?k5 ?kK ?kd ?ku ?_; (case k4 => k_asm); (case k1 => k_asm); (case k2 => k_asm); (case k3 => k_asm); (case k5 => k_asm); (case kK => first | exact rfl | assumption); (case kd => ktr_room); (case ku => ktr_units); (case hL => (assumption)); (case hp => (exact off6 (by assumption) (by assumption))); (case hn => (exact natAbs_neg _)); (case hN => (assumption))))
local macro_rules | `(tactic| walk_at "use image1") => `(tactic| (k_here; with_unfolding_all refine' FnSpec.use (image1 ?hL ?hp ?hn ?hN) ?k1 ?k2 ?k3 ?k4 ?k5 ?kK ?kd ?ku ?_; (case k4 => k_asm); (case k1 => k_asm); (case k2 => k_asm); (case k3 => k_asm); (case k5 => k_asm); (case kK => first | exact rfl | assumption); (case kd => ktr_room); (case ku => ktr_units); (case hL => (assumption)); (case hp => (exact off_one (by assumption))); (case hn => (exact natAbs_nat _)); (case hN => (assumption))))
local macro_rules | `(tactic| walk_at "use image7") => `(tactic| (k_here; with_unfolding_all refine' FnSpec.use (image7 ?hL ?hp ?hn ?hN) ?k1 ?k2 ?k3 ?k4 ?k5 ?kK ?kd ?ku ?_; (case k4 => k_asm); (case k1 => k_asm); (case k2 => k_asm); (case k3 => k_asm); (case k5 => k_asm); (case kK => first | exact rfl | assumption); (case kd => ktr_room); (case ku => ktr_units); (case hL => (assumption)); (case hp => (exact off_7 (by assumption) (by assumption) (by assumption) (by assumption) (by assumption) (by assumption) (by assumption))); (case hn => (exact natAbs_nat _)); (case hN => (assumption))))
local macro_rules | `(tactic| walk_at "use number2") => `(tactic| (k_here; with_unfolding_all refine' FnSpec.use (number_ring _ _ _ _ (vec _) (vec _) (vec_ok _) ?h2 ?h3) ?k1 ?k2 ?k3 ?k4 ?k5 ?kK ?kd ?ku ?_; (case k4 => k_asm); (case k1 => k_asm); (case k2 => k_asm); (case k3 => k_asm); (case k5 => k_asm); (case kK => first | exact rfl | assumption); (case kd => ktr_room); (case ku => ktr_units); (case h2 => ((repeat (first | assumption | exact List.mem_cons_self | exact List.mem_append_right _ List.mem_cons_self | exact List.mem_append_right _ (by assumption) | refine List.mem_cons_of_mem _ ?_)))); (case h3 => (assumption))))
local macro_rules | `(tactic| walk_at "use times") => `(tactic| (k_here; with_unfolding_all refine' FnSpec.use (times_spec _ _ _ _ _ _ _ ?h1 ?h2 ?h3 ?h4) ?k1 ?k2 ?k3 ?k4 ?k5 ?kK ?kd ?ku ?_; (case k4 => k_asm); (case k1 => k_asm); (case k2 => k_asm); (case k3 => k_asm); (case k5 => k_asm); (case kK => first | exact rfl | assumption); (case kd => ktr_room); (case ku => ktr_units); (case h1 => (assumption)); (case h2 => (assumption)); (case h3 => (exact RowsAt.mono (L3.rows (by assumption)) (fun _ hp => by repeat (first | exact hp | refine List.mem_cons_of_mem _ ?_ | refine List.mem_append_right _ ?_)))); (case h4 => (exact TabAt.mono (L3.tab (by assumption)) (fun _ hp => by repeat (first | exact hp | refine List.mem_cons_of_mem _ ?_ | refine List.mem_append_right _ ?_))))))
local macro_rules | `(tactic| walk_at "use ring") => `(tactic| (k_here; with_unfolding_all refine' FnSpec.use (ring_spec _ _ _ _ _ (vec _) (vec _) (vec_ok _) (vec_ok _) ?h3 ?h4 ?h5 ?h6) ?k1 ?k2 ?k3 ?k4 ?k5 ?kK ?kd ?ku ?_; (case k4 => k_asm); (case k1 => k_asm); (case k2 => k_asm); (case k3 => k_asm); (case k5 => k_asm); (case kK => first | exact rfl | assumption); (case kd => ktr_room); (case ku => ktr_units); (case h5 => (exact tab_figs (List.mem_cons_of_mem _ List.mem_cons_self) (by assumption))); (case h6 => (exact tab_figs List.mem_cons_self (by assumption))); (case h3 => (exact RowsAt.mono (L3.rows (by assumption)) sub4)); (case h4 => (exact TabAt.mono (L3.tab (by assumption)) sub4))))
local macro_rules | `(tactic| walk_at "use image3") => `(tactic| (k_here; with_unfolding_all refine' FnSpec.use (image_pre [_, _, _] ?hL ?hp _ _ _ ?hn ?hN) ?k1 ?k2 ?k3 ?k4 ?k5 ?kK ?kd ?ku ?_; (case k4 => k_asm); (case k1 => k_asm); (case k2 => k_asm); (case k3 => k_asm); (case k5 => k_asm); (case kK => first | exact rfl | assumption); (case kd => ktr_room); (case ku => ktr_units); (case hL => (assumption)); (case hp => (exact off3_51 (by assumption))); (case hn => (first | exact natAbs_nat _ | exact natAbs_neg _)); (case hN => (exact getD_lt (nums_lt _) _))))
local macro_rules | `(tactic| walk_at "call ref") => `(tactic| ((with_reducible show wpAny _ _ (call (Value.ref 56) _) _ _ _); (
      walk_at "use image3"
      intro r' n' h' tk' F' N' hR'
      unfold ImgP at hR'
      obtain ⟨t', T', extra', hr1', hr2', hL', hx'⟩ := hR'
      subst hr1' hr2')))
local macro_rules | `(tactic| walk_at "call ref") => `(tactic| ((with_reducible show wpAny _ _ (call (Value.ref 56) [Value.ref _, Value.int (Nat.cast _) _]) _ _ _); (with_reducible rename JF _ _ _ => hJ'); (
      walk_at "use image7"
      intro r' n' h' tk' F' N' hR'
      unfold ImgQ at hR'
      obtain ⟨q', t', T', extra', hr1', hr2', hq1', hq2', hL', hx'⟩ := hR'
      subst hr1' hr2'
      dsimp only [List.cons_append, List.nil_append] at N')))
local macro_rules | `(tactic| walk_at "call ref") => `(tactic| ((with_reducible show wpAny _ _ (call (Value.ref 56) [Value.ref _, Value.int (Nat.cast (_ ^^^ _)) _]) _ _ _); (
      walk_at "use image1"
      intro r' n' h' tk' F' N' hR'
      unfold ImgQ at hR'
      obtain ⟨q', t', T', extra', hr1', hr2', hq1', hq2', hL', hx'⟩ := hR'
      subst hr1' hr2'
      dsimp only [List.cons_append, List.nil_append] at N')))
local macro_rules | `(tactic| walk_at "call ref") => `(tactic| ((with_reducible show wpAny _ _ (call (Value.ref 56) [Value.ref _, Value.int (-_) _]) _ _ _); (
      walk_at "use image6"
      intro r' n' h' tk' F' N' hR'
      unfold ImgQ at hR'
      obtain ⟨q', t', T', extra', hr1', hr2', hq1', hq2', hL', hx'⟩ := hR'
      subst hr1' hr2'
      dsimp only [List.cons_append, List.nil_append] at N')))
local macro_rules | `(tactic| walk_at "call ref") => `(tactic| ((with_reducible show wpAny _ _ (call (Value.ref 61) _) _ _ _); (
      walk_at "use figures"
      intro r' n' h' tk' F' N' hR'
      obtain ⟨D', vs', nn', hr1', hr2', hi', hne'⟩ := hR'
      subst hr1' hr2'
      obtain ⟨t1', t2', t3', t4', t5', hv'⟩ := figs_vs hi'
      subst hv'
      have h51' := ne51 hne' (by repeat (first | exact List.mem_cons_self | refine List.mem_cons_of_mem _ ?_)))))
local macro_rules | `(tactic| walk_at "call ref") => `(tactic| ((with_reducible show wpAny _ _ (call (Value.ref 66) _) _ _ _); (
      first | walk_at "use number1" | walk_at "use number2"
      intro r' n' h' tk' F' N' hR'
      obtain ⟨q', t', hr1', hr2', hq1', hq2'⟩ := hR'
      subst hr1' hr2')))
local macro_rules | `(tactic| walk_at "use ne1") => `(tactic| (k_here; refine ne_nat (first_eq (by assumption) (by assumption) (by assumption)) ?_))
local macro_rules | `(tactic| walk_at "use ne2") => `(tactic| (k_here; refine ne_nat (second_eq (by assumption) (by assumption) (by assumption)) ?_))
local macro_rules | `(tactic| walk_at "compareOp NotEq int int") => `(tactic| ((with_reducible show wpAny _ _ (compareOp _ _ (Value.int (Nat.cast (_ ^^^ _)) _)) _ _ _); walk_at "use ne2"))
local macro_rules | `(tactic| walk_at "compareOp NotEq int int") => `(tactic| walk_at "use ne1")
local macro_rules | `(tactic| walk_at "use images") => `(tactic| (k_here; (
      (rename Fr _ _ _ _ => lF'); (rename News _ _ _ _ => lN')
      have hints := ints_nums (by assumption)
      obtain ⟨rest, hN9, hL9⟩ := l3_start lN' (by assumption) (by assumption) (by assumption) (by assumption) (by assumption) (by assumption) (by assumption) (by assumption) (by assumption) (by assumption) (by assumption)
      k_dflt (refine' LCg.CompSrc.ledger ?hh lF' hN9 ?km ?ks ?_; (case hh => with_unfolding_all exact rfl); (case km => exact List.mem_cons_of_mem _ (L3.num hL9)); (case ks => exact nums_size hints); intro g'; refine' comp_images hints hL9 ?turn ?fin)
      case' turn =>
        intro i' tv' Tb' rest' I' oI' C' oC' D' m' ys' h' tk' E' hL' hC' hx' F' N' off' ne'
        clear lF' lN' hN9
        obtain ⟨oR', hcR', hdR'⟩ := L3.cr hL'
      case' fin =>
        intro ys' Tb' rest' hL' hi'
        clear lF' lN' hN9)))
local macro_rules | `(tactic| walk_at "CompSrc Call") => `(tactic| walk_at "use images")
local macro_rules | `(tactic| walk_at "img end") => `(tactic| ((refine' img_cend ?hF ?hN ?hL ?hx ?off; (case hL => assumption); (case hN => assumption); (case hF => assumption); (case hx => assumption); (case off => assumption))))
local macro_rules | `(tactic| walk_at "CompEnd") => `(tactic| walk_at "img end")
local macro_rules | `(tactic| walk_at "use zipfor") => `(tactic| (k_here; (rename Fr _ _ _ _ => lF'); (with_unfolding_all refine' For_turns lF' ?_; k_whole)))
local macro_rules | `(tactic| walk_at "exec For Tuple Call cons nil") => `(tactic| walk_at "use zipfor")
local macro_rules | `(tactic| walk_at "use zip1") => `(tactic| (k_here; (with_reducible show wpAny _ _ (call (Value.type _) [Value.ref _, Value.ref _]) (fun xv s₁ => wpAny _ _ (pyIter xv) (fun it s₂ => TurnsAt _ _ _ _ _ _ _ _ _ it s₂) _ s₁) _ _); (
      (rename Fr _ _ _ _ => lF'); (rename News _ _ _ _ => lN')
      obtain ⟨hN9, hL9⟩ := z3_start lN' (by assumption) (by assumption)
      with_unfolding_all refine' ktu_zip ?hh lF' hN9 (List.mem_cons_of_mem _ (L3.num hL9)) rfl rfl (List.mem_cons_of_mem _ List.mem_cons_self) rfl rfl ?_
      case hh => with_unfolding_all exact rfl
      intro I' hI'
      refine' zip_items (Z3 _ _ _ _ _ _ _ _ _ _ I') [Str.ofString "n", Str.ofString "image", Str.ofString "last", Str.ofString "second", Str.ofString "third", Str.ofString "fourth", Str.ofString "fifth"] ?hkeep ?turn ?done (z3_0 hL9 hI')
      case hkeep => exact fun _ h => z3_keep h
      case' turn =>
        intro i' xv' yv' nw' u' T' h' tk' hx' hy' hZ' hT' F'
        clear lF' lN'
        unfold Z3 at hZ'
        obtain ⟨Tb', rest', hnw', hL', him', hoff'⟩ := hZ'
        subst hnw'
        obtain ⟨n9', j9', t1', t2', e1', e2', hn9', hj9', hjn'⟩ := z_item (by assumption) (by assumption) hx' hy'
        subst e1' e2'
        obtain ⟨oR', hcR', hdR'⟩ := L3.cr hL'
        refine AllObj.cons fun o1' hc1' => ?_
        refine AllObj.cons fun o2' hc2' => ?_
        refine AllObj.cons fun o3' hc3' => ?_
        refine AllObj.cons fun o4' hc4' => ?_
        refine AllObj.cons fun o5' hc5' => ?_
        refine AllObj.nil fun N' => ?_
        simp only [List.cons_append, List.nil_append] at N'
      case' done =>
        intro nw' u' h' tk' hZ' F' N'
        clear lF' lN'
        unfold Z3 at hZ'
        obtain ⟨Tb', rest', hnw', hL', him', hoff'⟩ := hZ'
        subst hnw'
        obtain ⟨oR', hcR', hdR'⟩ := L3.cr hL'
        obtain ⟨oT', hcT', hdT'⟩ := L3.ct hL'
        have hnum' := L3.num hL'
        obtain ⟨K9', hK1', hK2', hK3', hJF'⟩ := num_len (by assumption) (by assumption))))
local macro_rules | `(tactic| walk_at "z end") => `(tactic| (refine' z3_turn ?F ?N ?hs ?hL ?him ?hoff ?hx ?hp ?hm; (case N => assumption); (case F => assumption); (case hs => exact fun _ h => List.mem_cons_of_mem _ (List.mem_cons_of_mem _ h)); (case hL => assumption); (case him => assumption); (case hoff => assumption); (case hx => assumption); (case hp => exact z_pre); (case hm => (intro z h3; (simp only [List.contains_cons, List.contains_nil, Bool.or_false, Bool.or_eq_false_iff, beq_eq_false_iff_ne, ne_eq] at h3); simp [h3]))))
local macro_rules | `(tactic| walk_at "UnrEndW") => `(tactic| walk_at "z end")
local macro_rules | `(tactic| walk_at "use len") => `(tactic| (k_here; refine' KM.len_K ?hN ?hm ?hs ?hf ?_; (case hN => k_asm); (case hm => (repeat (first | assumption | exact List.mem_cons_self | exact List.mem_append_right _ List.mem_cons_self | exact List.mem_append_right _ (by assumption) | refine List.mem_cons_of_mem _ ?_))); (case hs => assumption); (case hf => omega)))
local macro_rules | `(tactic| walk_at "call builtin:len") => `(tactic| walk_at "use len")
local macro_rules | `(tactic| walk_at "use for") => `(tactic| (k_here; (rename Fr _ _ _ _ => lF'); (with_unfolding_all refine' For_invVF lF' ?k1 ?k2 ?_; (case k1 => exact rfl); (case k2 => exact rfl); k_whole)))
local macro_rules | `(tactic| walk_at "exec For Name Call cons nil") => `(tactic| walk_at "use for")
local macro_rules | `(tactic| walk_at "use loop2") => `(tactic| (
    k_here
    (rename Fr _ _ _ _ => lF'); (rename News _ _ _ _ => lN')
    with_unfolding_all refine' loop_range (fun _ : Unit => []) [Str.ofString "made", Str.ofString "pairs", Str.ofString "due"] (fun _ _ nx => J3 _ _ _ _ _ _ _ _ _ _ nx) () ?hh ?hr (small_K ?k7) (size_K ?k1) lF' lN' ?hk (j3_0 ?r0 ?r1 ?r2) ?turn ?done
    case hh => with_unfolding_all exact rfl
    case hr => assumption
    case k7 => assumption
    case k1 => assumption
    case hk => exact List.forall_mem_nil _
    case r0 => assumption
    case r1 => assumption
    case r2 => assumption
    case' turn =>
      intro I' i' st' tc' nx' u' h' tk' oI' hI0' hi' hInv' hnI' F' N'
      clear lF' lN'
      unfold J3 at hInv'
      obtain ⟨Tb', rest', hnw', hL', him'⟩ := hInv'
      subst hnw'
      obtain ⟨oR', hcR', hdR'⟩ := L3.cr hL'
      obtain ⟨oT', hcT', hdT'⟩ := L3.ct hL'
      have hnum' := L3.num hL'
      have h51' := ne51 hnI' List.mem_cons_self
      obtain ⟨a9', b9', p9', q9', t1', t2', t3', t4', e1', e2', e3', e4', ha9', hb9', hp9', hq9', hpa', hqb'⟩ := JF.get (by assumption) hi'
      have hab' := x_lt ha9' hb9'
    case' done =>
      intro st' nx' u' h' tk' hInv' F' N'
      clear lF' lN'))
local macro_rules | `(tactic| walk_at "pyIter ref") => `(tactic| walk_at "use loop2")
local macro_rules | `(tactic| walk_at "GrownAll") => `(tactic| exact j3_grown (by assumption) (by k_asm))
local macro_rules | `(tactic| walk_at "use item") => `(tactic| (k_here; refine item_list (by k_asm) (by (repeat (first | assumption | exact List.mem_cons_self | exact List.mem_append_right _ List.mem_cons_self | exact List.mem_append_right _ (by assumption) | refine List.mem_cons_of_mem _ ?_))) (by omega) (by omega) (by assumption) ?_))
local macro_rules | `(tactic| walk_at "subscriptTail Name BinOp") => `(tactic| walk_at "use item")
local macro_rules | `(tactic| walk_at "subscriptTail Name Name") => `(tactic| walk_at "use item")
local macro_rules | `(tactic| walk_at "binaryOp BitXor int int") => `(tactic| (k_here; refine xor_nat ?_))
local macro_rules | `(tactic| walk_at "call ref") => `(tactic| ((with_reducible show wpAny _ _ (call (Value.ref 73) _) _ _ _); (
      walk_at "use ring"
      intro r' n' h' tk' F' N' hR'
      obtain ⟨D', vs', nn', hr1', hr2', hm9', hne'⟩ := hR'
      subst hr1' hr2'
      have h51' := ne51 hne' (by repeat (first | exact List.mem_cons_self | refine List.mem_cons_of_mem _ ?_)))))
local macro_rules | `(tactic| walk_at "use zipK") => `(tactic| (
      k_here; (rename Fr _ _ _ _ => lF'); (rename News _ _ _ _ => lN')
      with_unfolding_all refine' call_zipK lF' lN' ?h1 ?h2 ?_
      case h1 => exact List.mem_cons_of_mem _ List.mem_cons_self
      case h2 => exact List.mem_cons_self
      intro B' h' o1' o2' hc1' hd1' hc2' hd2' F' N' hB'
      clear lF' lN'))
local macro_rules | `(tactic| walk_at "call type:zip") => `(tactic| first | walk_at "use zip1" | walk_at "use zipK")
local macro_rules | `(tactic| walk_at "exec Assign cons ListComp") => `(tactic| ((with_reducible rename JF _ _ _ => hJ'); (k_here; k_dflt (refine zip_assignF (by k_asm) (by rfl) (by with_unfolding_all rfl) (by with_unfolding_all rfl) (by decide) (by rfl) (by decide) (by rfl) (by rfl) (by decide) (by rfl) (by rfl) ?_))))
local macro_rules | `(tactic| walk_at "use zat") => `(tactic| (
      (rename Fr _ _ _ _ => lF'); (rename News _ _ _ _ => lN')
      with_unfolding_all refine' zat_figs ?hh lF' lN' ?c1 ?d1 ?c2 ?d2 ?hB ?l1 ?l2 ?i1 ?i2 ?turn ?fin
      case hh => with_unfolding_all exact rfl
      case c1 => assumption
      case d1 => assumption
      case c2 => assumption
      case d2 => assumption
      case hB => assumption
      case l1 => exact List.mem_cons_of_mem _ List.mem_cons_self
      case l2 => exact List.mem_cons_self
      case i1 => assumption
      case i2 => assumption
      case' turn =>
        intro i' a' b' t1' t2' own' C' oC' D' m' zs' h' tk' E' ha' hb' hae' hbe' hC' hmx' hmy' F' N'
        clear lF' lN'
      case' fin =>
        intro zs' D' h' tk' hz' F' N' hne'
        clear lF' lN'
        have h51' := ne51 hne' (by repeat (first | exact List.mem_cons_self | refine List.mem_cons_of_mem _ ?_))))
local macro_rules | `(tactic| walk_at "ZAt") => `(tactic| walk_at "use zat")
local macro_rules | `(tactic| walk_at "call ref") => `(tactic| ((with_reducible show wpAny _ _ (call (Value.ref 49) _) _ _ _); (
      walk_at "use times"
      intro r' n' h' tk' F' N' hR'
      obtain ⟨⟨t', hr1'⟩, hr2'⟩ := hR'
      subst hr1' hr2')))
local macro_rules | `(tactic| walk_at "ZEnd") => `(tactic| (refine' zend_of ?F ?N; (case N => assumption); (case F => assumption)))
local macro_rules | `(tactic| walk_at "use ne3") => `(tactic| (k_here; refine' ne_third ?N ?ha ?hb ?hi ?hj ?hg ?hq ?hk ?hp ?hq1 ?hu ?_; (case N => k_asm); (case ha => (repeat (first | assumption | exact List.mem_cons_self | exact List.mem_append_right _ List.mem_cons_self | exact List.mem_append_right _ (by assumption) | refine List.mem_cons_of_mem _ ?_))); (case hb => (repeat (first | assumption | exact List.mem_cons_self | exact List.mem_append_right _ List.mem_cons_self | exact List.mem_append_right _ (by assumption) | refine List.mem_cons_of_mem _ ?_))); (case hi => assumption); (case hj => assumption); (case hg => exact rfl); (case hq => assumption); (case hk => assumption); (case hp => assumption); (case hq1 => assumption); (case hu => ke_room)))
local macro_rules | `(tactic| walk_at "compareOp NotEq ref ref") => `(tactic| walk_at "use ne3")
local macro_rules | `(tactic| walk_at "j end") => `(tactic| (refine' j3_turn ?hL ?him ?hnI ?hx1 ?hp1 ?hx2 ?hp2 ?F ?N ?hs ?hr; (case hL => assumption); (case him => assumption); (case hnI => assumption); (case hx1 => assumption); (case hp1 => exact ⟨_, List.mem_cons_self⟩); (case hx2 => assumption); (case hp2 => exact ⟨_, by (repeat (first | assumption | exact List.mem_cons_self | exact List.mem_append_right _ List.mem_cons_self | exact List.mem_append_right _ (by assumption) | refine List.mem_cons_of_mem _ ?_))⟩); (case N => assumption); (case F => assumption); (case hs => repeat (first | exact fun _ h => h | refine sub_cons ?_)); (case hr => (intro z h1 h2 h3; (simp only [List.contains_cons, List.contains_nil, Bool.or_false, Bool.or_eq_false_iff, beq_eq_false_iff_ne, ne_eq] at h3); simp [kstB, h1, h3]))))
local macro_rules | `(tactic| walk_at "ITurn") => `(tactic| walk_at "j end")
local macro_rules | `(tactic| walk_at "eval Name") => `(tactic| (k_here; (with_reducible show wpAny _ _ (eval (Expr.Name _ _) (compEnvC _ _ _ _)) _ _ _); k_dflt (refine' kcf_cell ?N ?c ?m ?d ?_; (case c => rfl); (case N => k_asm); (case m => repeat (first | assumption | exact List.mem_cons_self | refine List.mem_cons_of_mem _ ?_ | refine List.mem_append_right _ ?_)); (case d => assumption))))
local macro_rules | `(tactic| walk_at "eval Name") => `(tactic| (k_here; k_dflt (refine' nameX_C ?N ?c ?m ?d ?_ ?a ?b; (case a => rfl); (case b => rfl); (case N => k_asm); (case c => rfl); (case m => (repeat (first | assumption | exact List.mem_cons_self | exact List.mem_append_right _ List.mem_cons_self | exact List.mem_append_right _ (by assumption) | refine List.mem_cons_of_mem _ ?_))); (case d => assumption); k_whole)))
local macro_rules | `(tactic| k_all) => `(tactic| assumption)
local macro_rules | `(tactic| walk_at "call ref") => `(tactic| ((with_reducible show wpAny _ _ (call (Value.ref 35) _) _ _ _); (
      walk_at "use mult"
      intro r' n' h' tk' F' N' hR'
      obtain ⟨R', more', hr1', hr2', hrows', hdis'⟩ := hR'
      subst hr1' hr2'
      replace N' := led_front N'
      obtain ⟨hm1', hm2', hm3'⟩ := dis3 hdis'
      dsimp only at hm1' hm2' hm3')))
local macro_rules | `(tactic| walk_at "call ref") => `(tactic| ((with_reducible show wpAny _ _ (call (Value.ref 42) _) _ _ _); (
      walk_at "use turns"
      intro r' n' h' tk' F' N' hR'
      obtain ⟨T', ts', nn', hr1', hr2', hts', hne'⟩ := hR'
      subst hr1' hr2'
      obtain ⟨hn1', hn2', hn3', hn4'⟩ := ne4 hne'
      dsimp only at hn1' hn2' hn3')))
set_option maxRecDepth 100000 in
set_option maxHeartbeats 8000000 in
theorem PySem.Challenge.cw_nq0005_03_holds : PySem.Challenge.rw_nq0005_03.Holds := by
  refine hd ?_
  w_strict (
    k_go0
    (all_goals try k_fold)
    k_with_none
    k_steps)
#print axioms PySem.Challenge.cw_nq0005_03_holds

