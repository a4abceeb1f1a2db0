import PyProof.Rows.All
import Wide.All
import OpenK.AllK
import Wide.FinOn
import Lean
import PySem.Challenge.RW_nq0005_02
open PySem PySem.W PyProof.Rows
set_option Elab.async false

-- Base
namespace Mine
open PySem.Calls PySem.Spec
abbrev Led := List (Addr × Obj)
def FnSpec (prog : Program) (w : World) (K : Frag) (p : Program) (loose : List Str) (mean : ExcName → Option Value) (mg mb : Str → Option Value) (f : Value) (args : List Value) (d u : Nat) (news : Led) (R : Value → Led → Prop) : Prop :=
  ∀ (dp un : Nat) (gd : Option (List Code)) (cn : Str) (cs : Scope) (a : Addr) (ccd : Value) (cl : List (Str × Addr)) (outer : List Env) (A₀ : Around) (base h₀ : Heap) (L : Addr) (m : Str → Option Value) (s : Shared) (Q E : Value → Shared → Prop),
    Below A₀ base outer h₀ → Fr h₀ L s.heap m → K.In h₀ → News h₀ L s.heap news → Top p loose mean mg mb h₀ → cs.kind = .function → dp + d < recursionLimit → un + u < cLine →
    (∀ r news' h' tk', Fr h₀ L h' m → News h₀ L h' news' → R r news' → Q r { s with heap := h', toks := tk' }) →
    wpAny (model prog w) (ktrTop dp un gd cn cs L a ccd cl outer) (call f args) Q E s
theorem News.sub {h₀ h : Heap} {L : Addr} {news news' : Led} (N : News h₀ L h news') (hs : ∀ p ∈ news, p ∈ news') : News h₀ L h news := fun p hp => N p (hs p hp)
theorem news_swap2 {h₀ h : Heap} {L : Addr} {more : Led} {a b : Addr × Obj} (N : News h₀ L h (more ++ [a, b])) : News h₀ L h (a :: b :: more) := News.sub N fun p hp => by
  rcases List.mem_cons.mp hp with rfl | hp
  · simp
  · rcases List.mem_cons.mp hp with rfl | hp
    · simp
    · exact List.mem_append_left _ hp
theorem ord2 {more : Led} {a b : Addr × Obj} (h : ∀ p ∈ more, ∀ q ∈ [a, b], q.1 < p.1) : (∀ p ∈ more, p.1 ≠ a.1) ∧ (∀ p ∈ more, p.1 ≠ b.1) := ⟨fun p hp => Nat.ne_of_gt (h p hp a (by simp)), fun p hp => Nat.ne_of_gt (h p hp b (by simp))⟩
theorem sub_cons {l l' : Led} {q : Addr × Obj} (h : ∀ p ∈ l, p ∈ l') : ∀ p ∈ l, p ∈ q :: l' := fun p hp => .tail _ (h p hp)
theorem FnSpec.mono {prog : Program} {w : World} {K : Frag} {p : Program} {loose : List Str} {mean : ExcName → Option Value} {mg mb : Str → Option Value} {f : Value} {args : List Value} {d u d' u' : Nat} {news news₁ : Led} {R R' : Value → Led → Prop}
    (h : FnSpec prog w K p loose mean mg mb f args d u news R) (hn : ∀ q ∈ news, q ∈ news₁) (hd : d ≤ d') (hu : u ≤ u') (hr : ∀ r n, R r n → ∃ n', (∀ q ∈ n', q ∈ n) ∧ R' r n') : FnSpec prog w K p loose mean mg mb f args d' u' news₁ R' := by
  intro dp un gd cn cs a ccd cl outer A₀ base h₀ L m s Q E B F X N T hk hd' hu' hret
  refine h dp un gd cn cs a ccd cl outer A₀ base h₀ L m s Q E B F X (News.sub N hn) T hk (by omega) (by omega) fun r n h' tk' F' N' hR => ?_
  obtain ⟨n', hs, hR'⟩ := hr r n hR
  exact hret r n' h' tk' F' (News.sub N' hs) hR'
theorem FnSpec.use {prog : Program} {w : World} {K : Frag} {p : Program} {loose : List Str} {mean : ExcName → Option Value} {mg mb : Str → Option Value} {f : Value} {args : List Value} {d u : Nat} {news : Led} {R : Value → Led → Prop}
    {dp un : Nat} {gd : Option (List Code)} {cn : Str} {cs : Scope} {a : Addr} {ccd : Value} {cl : List (Str × Addr)} {outer : List Env} {A₀ : Around} {base h₀ : Heap} {L : Addr} {m : Str → Option Value} {s : Shared} {Q E : Value → Shared → Prop}
    (S : FnSpec prog w K p loose mean mg mb f args d u news R) (B : Below A₀ base outer h₀) (F : Fr h₀ L s.heap m) (X : K.In h₀) (N : News h₀ L s.heap news) (T : Top p loose mean mg mb h₀) (hk : cs.kind = .function) (hd : dp + d < recursionLimit) (hu : un + u < cLine)
    (ret : ∀ r news' h' tk', Fr h₀ L h' m → News h₀ L h' news' → R r news' → Q r { s with heap := h', toks := tk' }) :
    wpAny (model prog w) (ktrTop dp un gd cn cs L a ccd cl outer) (call f args) Q E s := S _ _ _ _ _ _ _ _ _ _ _ _ _ _ _ _ _ B F X N T hk hd hu ret
def ITurn {σ : Type} (h₀ : Heap) (L I : Addr) (oI : Obj) (s : Shared) (x : Str) (ps : σ → List (Str × Value)) (stored : List Str) (m₀ : Str → Option Value) (Inv' : σ → Led → Prop) (Q : Flow → Shared → Prop) (f : Flow) (s₂ : Shared) : Prop :=
  match f with
  | .ret v => Q (.ret v) s₂
  | .brk => Q .next s₂
  | _ => ∃ (c : σ) (h' : Heap) (tk : Nat) (m' : Str → Option Value) (nx : Led), s₂ = { s with heap := h', toks := tk } ∧ Fr h₀ L h' m' ∧ News h₀ L h' ((I, oI) :: nx) ∧ (∀ p ∈ nx, p.1 ≠ I) ∧ (∀ p ∈ ps c, m' p.1 = some p.2) ∧ (∀ z, z ≠ x → (∀ p ∈ ps c, z ≠ p.1) → stored.contains z = false → m' z = m₀ z) ∧ Inv' c nx
section
variable {prog : Program} {w : World} {A : Around} {E : Value → Shared → Prop} {s : Shared} {env : Env} {h₀ : Heap} {x : Str} {body : List Stmt} {Q : Flow → Shared → Prop}
theorem iturn_next {σ : Type} {L I : Addr} {oI : Obj} {ps : σ → List (Str × Value)} {stored : List Str} {m₀ m' : Str → Option Value} {Inv' : σ → Led → Prop} {h' : Heap} {tk : Nat} (c : σ) (nx : Led)
    (F : Fr h₀ L h' m') (N : News h₀ L h' ((I, oI) :: nx)) (ha : ∀ p ∈ nx, p.1 ≠ I) (hk : ∀ p ∈ ps c, m' p.1 = some p.2) (hr : ∀ z, z ≠ x → (∀ p ∈ ps c, z ≠ p.1) → stored.contains z = false → m' z = m₀ z) (hi : Inv' c nx) :
    ITurn h₀ L I oI s x ps stored m₀ Inv' Q .next { s with heap := h', toks := tk } := ⟨c, h', tk, m', nx, rfl, F, N, ha, hk, hr, hi⟩
theorem iloop {σ : Type} {I : Addr} {oI₀ : Obj} {fp : List Addr} {n : Nat} {P : Nat → Value → Prop} {St : Nat → Heap → Prop} {m₀ : Str → Option Value} {news : Led} (ps : σ → List (Str × Value)) (stored : List Str) (Inv : Nat → σ → Led → Prop) (c₀ : σ)
    (W : Walks prog w A I fp [I] n P St) (hLf : env.locals ∉ fp) (hfp : ∀ a ∈ fp, a = I ∨ (∃ o, h₀.get? a = some o) ∨ (∃ o, ∀ i c nx, Inv i c nx → (a, o) ∈ nx)) (hst : St 0 s.heap)
    (F : Fr h₀ env.locals s.heap m₀) (N : News h₀ env.locals s.heap ((I, oI₀) :: news)) (hnI : ∀ p ∈ news, p.1 ≠ I) (hk : ∀ p ∈ ps c₀, m₀ p.1 = some p.2) (h0 : Inv 0 c₀ news)
    (hIfp : I ∈ fp) (hob : ∀ i h, St i h → ∃ o, h.get? I = some o)
    (turn : ∀ i c v nx (u : Str → Option Value) h tk oI, i < n → P i v → Inv i c nx → (∀ p ∈ nx, p.1 ≠ I) → Fr h₀ env.locals h (fun y => if y = x then some v else kstB (fun z => if stored.contains z then u z else m₀ z) (ps c) y) → News h₀ env.locals h ((I, oI) :: nx) →
      wpAny (model prog w) A (execs body env) (ITurn h₀ env.locals I oI { s with heap := h, toks := tk } x ps stored m₀ (Inv (i + 1)) Q) E { s with heap := h, toks := tk })
    (done : ∀ c nx (u : Str → Option Value) h tk, Inv n c nx → (∀ p ∈ nx, p.1 ≠ I) → Fr h₀ env.locals h (fun y => if y = x then u y else kstB (fun z => if stored.contains z then u z else m₀ z) (ps c) y) → News h₀ env.locals h nx → Q .next { s with heap := h, toks := tk }) :
    LoopAtV prog w A h₀ env x body Q E (.ref I) s := by
  have hI0 : h₀.get? I = none := (N _ (.head _)).2.2
  refine ⟨I, fp, [I], n, P, St, m₀, news, (fun i m nx => ∃ c : σ, (∀ p ∈ ps c, m p.1 = some p.2) ∧ (∀ z, z ≠ x → (∀ p ∈ ps c, z ≠ p.1) → stored.contains z = false → m z = m₀ z) ∧ Inv i c nx), rfl, W, hLf,
    (fun b hb => by rw [List.mem_singleton.mp hb]; exact hI0), (fun p hp hq => hnI p hp (List.mem_singleton.mp hq)), hst, F, (fun p hp => N p (.tail _ hp)), ⟨c₀, hk, fun _ _ _ _ => rfl, h0⟩, ?_, ?_⟩
  · rintro i v m₁ nx s₁ own ⟨hh, tk, rfl⟩ hin hP ⟨c, h1, h2, hInv⟩ hoff hown hget hmem hst' F₁ N₁
    obtain ⟨oI, hoI⟩ : ∃ oI, hh.get? I = some oI := hob _ _ hst'
    have hIown : (I, oI) ∈ own := hmem I hIfp hI0 oI hoI
    have N₂ : News h₀ env.locals hh ((I, oI) :: nx) := fun p hp => by
      rcases List.mem_cons.mp hp with rfl | hp
      · exact N₁ _ (List.mem_append_left _ hIown)
      · exact N₁ _ (List.mem_append_right _ hp)
    refine wpAny_mono (turn i c v nx m₁ hh tk oI hin hP hInv (fun p hp hq => hoff p hp (List.mem_singleton.mpr hq)) (kst_fr h1 h2 F₁) N₂) (fun f s₂ q => ?_) fun _ _ e => e
    have fin : (∃ (c : σ) (h' : Heap) (tk' : Nat) (m' : Str → Option Value) (nx : Led), s₂ = { ({ s with heap := hh, toks := tk } : Shared) with heap := h', toks := tk' } ∧ Fr h₀ env.locals h' m' ∧ News h₀ env.locals h' ((I, oI) :: nx) ∧ (∀ p ∈ nx, p.1 ≠ I) ∧ (∀ p ∈ ps c, m' p.1 = some p.2) ∧ (∀ z, z ≠ x → (∀ p ∈ ps c, z ≠ p.1) → stored.contains z = false → m' z = m₀ z) ∧ Inv (i + 1) c nx) →
        LoopStepU h₀ env.locals [I] own (fun m nx => ∃ c : σ, (∀ p ∈ ps c, m p.1 = some p.2) ∧ (∀ z, z ≠ x → (∀ p ∈ ps c, z ≠ p.1) → stored.contains z = false → m z = m₀ z) ∧ Inv (i + 1) c nx) { s with heap := hh, toks := tk } .next s₂ := by
      rintro ⟨c', h', tk', m', nx', rfl, F', N', ha', hk', hr', hi'⟩
      refine ⟨rfl, h', tk', m', nx', rfl, F', fun p hp => ?_, fun p hp hq => ha' p hp (List.mem_singleton.mp hq), c', hk', hr', hi'⟩
      rcases List.mem_append.mp hp with hp | hp
      · have hpg := hget p hp
        rcases hfp p.1 (hown p hp) with e | ⟨o, ho⟩ | ⟨o, ho⟩
        · have : p = (I, oI) := by
            rw [e] at hpg
            exact Prod.ext e (Option.some.inj (hpg.symm.trans hoI))
          rw [this]; exact N' _ (.head _)
        · have := (N₁ p (List.mem_append_left _ hp)).2.2; rw [ho] at this; cases this
        · have h3 := (N₁ _ (List.mem_append_right _ (ho _ _ _ hInv))).1
          have : p = (p.1, o) := Prod.ext rfl (Option.some.inj (hpg.symm.trans h3))
          rw [this]; exact N' _ (.tail _ (ho _ _ _ hi'))
      · exact N' _ (.tail _ hp)
    cases f with
    | ret v => exact .ret q
    | brk => exact .brk q
    | next => exact .next (fin q)
    | cont => exact .cont (fin q)
  · rintro h' tk m' nx F' N' hoff ⟨c, h1, h2, hInv⟩
    exact done c nx m' h' tk hInv (fun p hp hq => hoff p hp (List.mem_singleton.mpr hq)) (kst_frOut h1 h2 F') N'
end
abbrev bytesIt (b : Array UInt8) (t : Tok) (i : Nat) : Obj := { cls := .type "bytes_iterator", data := .fields #[.bytes b t, .int i 0] }
abbrev listIt (l : Addr) (i : Nat) : Obj := { cls := .type "list_iterator", data := .fields #[.ref l, .int i 0] }
section
variable {prog : Program} {w : World} {A : Around} {E : Value → Shared → Prop} {s : Shared} {env : Env} {h₀ : Heap} {L : Addr} {m : Str → Option Value} {news : Led}
theorem iter_any {x : Value} {Q : Value → Shared → Prop} (h : wpAny (model prog w) A.in1 (pyIter x) Q E s) : wpAny (model prog w) A (call (.builtin "iter") [x]) Q E s := by
  refine call_function_entry (by decide +kernel) (by decide +kernel) kdk_entry_iter (kdk_args_iter _) ?_
  unfold Builtin.«iter»
  refine wpAny_bind (m := someArgs "iter" 1 2 _) (wpAny_of_eq (a := [x]) (by first | rfl | kernel_rfl!) ?_)
  show wpAny _ _ (pyIter x >>= _) _ _ _
  exact wpAny_bind (wpAny_mono h (fun r s' hq => wpAny_pure ⟨_, rfl, hq⟩) fun _ _ e => e)
theorem iter_bytes {b : Array UInt8} {t : Tok} {Q : Value → Shared → Prop} (F : Fr h₀ L s.heap m) (N : News h₀ L s.heap news)
    (h : ∀ I h', Fr h₀ L h' m → News h₀ L h' ((I, bytesIt b t 0) :: news) → (∀ p ∈ news, p.1 < I) → Q (.ref I) { s with heap := h' }) : wpAny (model prog w) A (call (.builtin "iter") [.bytes b t]) Q E s :=
  iter_any (KBw.pyIter_bytes (h _ _ (F.push _) (News.push F N _ rfl) fun q hq => Heap.lt_size (N q hq).1))
theorem is_other_y {x y : Addr} {ox oy : Obj} {Q : Value → Shared → Prop} (hxy : x ≠ y) (hx : s.heap.get? x = some ox) (hy : s.heap.get? y = some oy) (hnt : oy.cls ≠ .type "tuple")
    (h : Q (.bool false) s) : wpAny (model prog w) A (compareOp .Is (.ref x) (.ref y)) Q E s := by
  show wpAny _ A (do return .bool (← isSame (.ref x) (.ref y))) Q E s
  refine wpAny_bind ?_
  show wpAny _ A (if (x == y) = true then pure true else _) _ E s
  rw [if_neg (by simpa using hxy)]
  refine wpAny_bind (wpAny_load hx (wpAny_bind (wpAny_load hy ?_)))
  split
  · rename_i _ h1 _ _; exact absurd h1 hnt
  · exact wpAny_pure (wpAny_pure h)
/-- a value that is not the missing mark -/
def Told (v : Value) (news : Led) : Prop := (∃ i t, v = .int i t) ∨ ∃ t o, v = .ref t ∧ (t, o) ∈ news
theorem Told.more {v : Value} {q : Addr × Obj} (h : Told v news) : Told v (q :: news) := h.imp id fun ⟨t, o, e, hm⟩ => ⟨t, o, e, .tail _ hm⟩
theorem is_missing {v : Value} {y : Addr} {oy : Obj} {Q : Value → Shared → Prop} (hv : Told v news) (F : Fr h₀ L s.heap m) (N : News h₀ L s.heap news) (hy : h₀.get? y = some oy) (hnt : oy.cls ≠ .type "tuple")
    (h : Q (.bool false) s) : wpAny (model prog w) A (compareOp .Is v (.ref y)) Q E s := by
  rcases hv with ⟨i, t, rfl⟩ | ⟨t, o, rfl, hm⟩
  · exact wpAny_is_other rfl (by intro e; cases e) h
  · refine is_other_y ?_ (N _ hm).1 (F.keep _ _ hy) hnt h
    rintro rfl
    have := (N _ hm).2.2
    rw [hy] at this; cases this
theorem item_list {value slice : PySem.Expr} {l : Addr} {vs : List Value} {nn : Nat} {k : Int} {u : Tok} {v : Value} {Q : Value → Shared → Prop} (N : News h₀ L s.heap news) (hl : (l, listOf vs.toArray nn) ∈ news) (h0 : 0 ≤ k) (hhi : k < 2 ^ 62) (hx : vs[k.toNat]? = some v) (h : Q v s)
    (hs : subscripted slice false (.ref l) (.int k u) = operate [.ref l, .int k u] (getItem (.ref l) (.int k u)) := by with_unfolding_all rfl) :
    wpAny (model prog w) A (subscriptTail value slice (.ref l) (.int k u)) Q E s :=
  have hl' : s.heap.IsList l vs.toArray := ⟨_, (N _ hl).1, rfl, nn, rfl⟩
  tail_any hl'.typeIs slot_list_getitem.lookup (wpAny_getItem_list hl' h0 (by omega) (by simpa using hx) h) hs
abbrev tupO (vs : List Value) : Obj := { cls := .type "tuple", data := .seq vs.toArray }
theorem loop_bytes {σ : Type} {x : Str} {body : List Stmt} {Q : Flow → Shared → Prop} {I : Addr} {b : Array UInt8} {t : Tok} {m₀ : Str → Option Value} (ps : σ → List (Str × Value)) (stored : List Str) (Inv : Nat → σ → Led → Prop) (c₀ : σ)
    (hh : A.handled = none) (F : Fr h₀ env.locals s.heap m₀) (N : News h₀ env.locals s.heap ((I, bytesIt b t 0) :: news)) (hnI : ∀ p ∈ news, p.1 ≠ I) (hk : ∀ p ∈ ps c₀, m₀ p.1 = some p.2) (h0 : Inv 0 c₀ news)
    (turn : ∀ i c (ch : UInt8) (tc : Tok) nx (u : Str → Option Value) h tk oI, b[i]? = some ch → Inv i c nx → (∀ p ∈ nx, p.1 ≠ I) → Fr h₀ env.locals h (fun y => if y = x then some (.int ch.toNat tc) else kstB (fun z => if stored.contains z then u z else m₀ z) (ps c) y) → News h₀ env.locals h ((I, oI) :: nx) →
      wpAny (model prog w) A (execs body env) (ITurn h₀ env.locals I oI { s with heap := h, toks := tk } x ps stored m₀ (Inv (i + 1)) Q) E { s with heap := h, toks := tk })
    (done : ∀ c nx (u : Str → Option Value) h tk, Inv b.size c nx → (∀ p ∈ nx, p.1 ≠ I) → Fr h₀ env.locals h (fun y => if y = x then u y else kstB (fun z => if stored.contains z then u z else m₀ z) (ps c) y) → News h₀ env.locals h nx → Q .next { s with heap := h, toks := tk }) :
    wpAny (model prog w) A (pyIter (.ref I)) (fun it s₂ => LoopAtV prog w A h₀ env x body Q E it s₂) E s := by
  have hIt : KBw.IsBytesIter s.heap I b t 0 := ⟨_, (N _ (.head _)).1, rfl, rfl⟩
  refine KBw.pyIter_self hIt ?_
  refine iloop ps stored Inv c₀ (KBw.walks hh I b t) ?_ (fun a ha => .inl (List.mem_singleton.mp ha)) hIt F N hnI hk h0 (List.mem_singleton.mpr rfl) (fun i h st => let ⟨o, ho, _⟩ := st; ⟨o, ho⟩) ?_ done
  · intro hm; exact (N _ (.head _)).2.1 (List.mem_singleton.mp hm).symm
  · rintro i c v nx u h tk oI _ ⟨ch, tc, hc, rfl⟩ hi ha F' N'
    exact turn i c ch tc nx u h tk oI hc hi ha F' N'
theorem loop_range {σ : Type} {x : Str} {body : List Stmt} {Q : Flow → Shared → Prop} {r : Addr} {a b c : Int} {t u v : Tok} {n : Nat} {m₀ : Str → Option Value} (ps : σ → List (Str × Value)) (stored : List Str) (Inv : Nat → σ → Led → Prop) (c₀ : σ)
    (hh : A.handled = none) (hr : IsRange s.heap r a b c t u v) (hsmall : Builtin.Range.small a b c = true) (hsz : Builtin.Range.rangeSize a b c = (n : Int)) (F : Fr h₀ env.locals s.heap m₀) (N : News h₀ env.locals s.heap news) (hk : ∀ p ∈ ps c₀, m₀ p.1 = some p.2) (h0 : Inv 0 c₀ news)
    (turn : ∀ I i st (tc : Tok) nx (u : Str → Option Value) h tk oI, (∀ p ∈ news, p.1 < I) → i < n → Inv i st nx → (∀ p ∈ nx, p.1 ≠ I) → Fr h₀ env.locals h (fun y => if y = x then some (.int (a + i * c) tc) else kstB (fun z => if stored.contains z then u z else m₀ z) (ps st) y) → News h₀ env.locals h ((I, oI) :: nx) →
      wpAny (model prog w) A (execs body env) (ITurn h₀ env.locals I oI { s with heap := h, toks := tk } x ps stored m₀ (Inv (i + 1)) Q) E { s with heap := h, toks := tk })
    (done : ∀ st nx (u : Str → Option Value) h tk, Inv n st nx → Fr h₀ env.locals h (fun y => if y = x then u y else kstB (fun z => if stored.contains z then u z else m₀ z) (ps st) y) → News h₀ env.locals h nx → Q .next { s with heap := h, toks := tk }) :
    wpAny (model prog w) A (pyIter (.ref r)) (fun it s₂ => LoopAtV prog w A h₀ env x body Q E it s₂) E s := by
  refine wpAny_pyIter_range hr hsmall ?_
  have W := Walks.range (prog := prog) (w := w) hh s.heap.objs.size a c n
  have hnl : ∀ p ∈ news, p.1 < s.heap.objs.size := fun p hp => Heap.lt_size (N p hp).1
  refine iloop ps stored Inv c₀ W ?_ (fun a ha => .inl (List.mem_singleton.mp ha)) ?_ (F.push _) (News.push F N _ rfl) (fun p hp => Nat.ne_of_lt (hnl p hp)) hk h0 (List.mem_singleton.mpr rfl) (fun i h st => ⟨_, st⟩) ?_ (fun st nx u h tk hi _ F' N' => done st nx u h tk hi F' N')
  · intro hm
    exact absurd F.ns.lt ((List.mem_singleton.mp hm) ▸ Nat.lt_irrefl _)
  · show (s.heap.push _).get? _ = _
    rw [Heap.get?_push_size _ rfl, hsz]
    simp [rawInt]
  · rintro i st v nx u h tk oI hi ⟨tc, rfl⟩ hInv ha F' N'
    exact turn _ i st tc nx u h tk oI hnl hi hInv ha F' N'
theorem iter_list {l : Addr} {vs : List Value} {nn : Nat} {Q : Value → Shared → Prop} (F : Fr h₀ L s.heap m) (N : News h₀ L s.heap news) (hl : (l, listOf vs.toArray nn) ∈ news)
    (h : ∀ I h', Fr h₀ L h' m → News h₀ L h' ((I, listIt l 0) :: news) → (∀ p ∈ news, p.1 < I) → Q (.ref I) { s with heap := h' }) : wpAny (model prog w) A (call (.builtin "iter") [.ref l]) Q E s :=
  have hl' : s.heap.IsList l vs.toArray := ⟨_, (N _ hl).1, rfl, nn, rfl⟩
  iter_any (wpAny_pyIter_list hl' (h _ _ (F.push _) (News.push F N _ rfl) fun q hq => Heap.lt_size (N q hq).1))
theorem next_list {I l : Addr} {i : Nat} {vs : List Value} {nn : Nat} {oI : Obj} {v : Value} {Q : Value → Shared → Prop} (F : Fr h₀ L s.heap m) (N : News h₀ L s.heap ((I, oI) :: news)) (hc : oI.cls = .type "list_iterator") (hd : oI.data = .fields #[.ref l, .int i 0]) (hnI : ∀ p ∈ news, p.1 ≠ I) (hl : (l, listOf vs.toArray nn) ∈ news) (hx : vs[i]? = some v)
    (h : ∀ h' oI', oI'.cls = .type "list_iterator" → oI'.data = .fields #[.ref l, .int ((i + 1 : Nat) : Int) 0] → Fr h₀ L h' m → News h₀ L h' ((I, oI') :: news) → Q v { s with heap := h' }) : wpAny (model prog w) A (call (.builtin "next") [.ref I]) Q E s := by
  have hm := N _ (.head _)
  have ho : s.heap.get? I = some oI := hm.1
  have hit : s.heap.IsListIter I l i := ⟨_, ho, hc, hd⟩
  have hol := (N _ (.tail _ hl)).1
  refine call_function_entry (by decide +kernel) (by decide +kernel) kdk_entry_next (kdk_args_next _) ?_
  unfold Builtin.«next»
  refine wpAny_bind (m := someArgs "next" 1 2 _) (wpAny_of_eq (a := [Value.ref I]) (by first | rfl | kernel_rfl!) ?_)
  dsimp only
  refine wpAny_bind (wpAny_specialOf (name := Str.ofString "__next__") hit.typeIs slot_listiter_next.lookup ?_)
  refine wpAny_ite_split (fun hab => absurd hab (by decide)) (fun _ => ?_)
  refine wpAny_bind (wpAny_callSpecial?_slot (name := Str.ofString "__next__") hit.typeIs slot_listiter_next
    (wpAny_call_entry slot_listiter_next hit.typeIs entry_listiter_next ?_ (args_listiter_next _)))
  show wpAny _ _ (field (.ref I) 0 >>= _) _ _ s
  refine wpAny_bind (wpAny_field ho hd (x := .ref l) rfl ?_)
  show wpAny _ _ (if (Value.ref l == Value.none) = true then _ else _) _ _ s
  rw [if_neg (show ¬ ((Value.ref l == Value.none) = true) from Bool.false_ne_true)]
  show wpAny _ _ (field (.ref I) 1 >>= _) _ _ s
  refine wpAny_bind (wpAny_field ho hd (x := .int i 0) rfl ?_)
  show wpAny _ _ (seqItems? (.ref l) >>= _) _ _ s
  refine wpAny_bind (wpAny_seqItems hol rfl ?_)
  have hx' : vs.toArray[i]? = some v := by simpa using hx
  simp only [Int.toNat_natCast, hx']
  refine wpAny_bind (wpAny_setField ho hd (by simp) (wpAny_pure ⟨v, rfl, ?_⟩))
  refine wpAny_pure ⟨_, rfl, ?_⟩
  have hs : Heap.SameBut I s.heap (s.heap.update I (Obj.mapFields (·.setIfInBounds 1 (rawInt ((i : Int) + 1))))) := Heap.SameBut.update ..
  have ho' : (s.heap.update I (Obj.mapFields (·.setIfInBounds 1 (rawInt ((i : Int) + 1))))).get? I = some _ := Heap.get?_update_self _ ho (Obj.isFreed_of_fields (Obj.data_mapFields hd _))
  exact h _ _ ((Obj.cls_mapFields ..).trans hc) (by rw [Obj.data_mapFields hd]; simp [rawInt]) (F.change hs hm.2.1 hm.2.2) (News.setIn (own := []) N (fun _ hq => nomatch hq) hnI hs ho')
theorem walks_shift {I : Addr} {fp wr : List Addr} {n : Nat} {P : Nat → Value → Prop} {St : Nat → Heap → Prop} (W : Walks prog w A I fp wr n P St) (k : Nat) (hk : k ≤ n) :
    Walks prog w A I fp wr (n - k) (fun i v => P (i + k) v) (fun i h => St (i + k) h) where
  sub := W.sub
  frame := fun i h h' => W.frame (i + k) h h'
  item := fun i s Q E hi st hQ => W.item (i + k) s Q E (by omega) st fun v h' tk hP hS hf => hQ v h' tk hP (by rw [show i + 1 + k = i + k + 1 by omega]; exact hS) hf
  done := fun s Q E st hQ => W.done s Q E (by rw [show n = n - k + k by omega]; exact st) hQ
  self := fun i s Q E st hQ => W.self (i + k) s Q E st hQ
theorem loop_listIt {σ : Type} {x : Str} {body : List Stmt} {Q : Flow → Shared → Prop} {I l : Addr} {oI₀ : Obj} {vs : List Value} {nn k : Nat} {m₀ : Str → Option Value} (ps : σ → List (Str × Value)) (stored : List Str) (Inv : Nat → σ → Led → Prop) (c₀ : σ)
    (hh : A.handled = none) (F : Fr h₀ env.locals s.heap m₀) (N : News h₀ env.locals s.heap ((I, oI₀) :: news)) (hc : oI₀.cls = .type "list_iterator") (hd : oI₀.data = .fields #[.ref l, .int (k : Int) 0]) (hkn : k ≤ vs.length) (hnI : ∀ p ∈ news, p.1 ≠ I) (hl : ∀ i c nx, Inv i c nx → (l, listOf vs.toArray nn) ∈ nx) (hk : ∀ p ∈ ps c₀, m₀ p.1 = some p.2) (h0 : Inv 0 c₀ news)
    (turn : ∀ i c v nx (u : Str → Option Value) h tk oI, vs[i + k]? = some v → Inv i c nx → (∀ p ∈ nx, p.1 ≠ I) → Fr h₀ env.locals h (fun y => if y = x then some v else kstB (fun z => if stored.contains z then u z else m₀ z) (ps c) y) → News h₀ env.locals h ((I, oI) :: nx) →
      wpAny (model prog w) A (execs body env) (ITurn h₀ env.locals I oI { s with heap := h, toks := tk } x ps stored m₀ (Inv (i + 1)) Q) E { s with heap := h, toks := tk })
    (done : ∀ c nx (u : Str → Option Value) h tk, Inv (vs.length - k) c nx → (∀ p ∈ nx, p.1 ≠ I) → Fr h₀ env.locals h (fun y => if y = x then u y else kstB (fun z => if stored.contains z then u z else m₀ z) (ps c) y) → News h₀ env.locals h nx → Q .next { s with heap := h, toks := tk }) :
    wpAny (model prog w) A (pyIter (.ref I)) (fun it s₂ => LoopAtV prog w A h₀ env x body Q E it s₂) E s := by
  have hl0 := hl _ _ _ h0
  have hIt : s.heap.IsListIter I l k := ⟨_, (N _ (.head _)).1, hc, hd⟩
  have hL : s.heap.IsList l vs.toArray := ⟨_, (N _ (.tail _ hl0)).1, rfl, nn, rfl⟩
  have W := walks_shift (Walks.list (prog := prog) (w := w) hh I l (hnI _ hl0) vs.toArray) k (by simpa using hkn)
  rw [show vs.toArray.size - k = vs.length - k by simp] at W
  refine wpAny_pyIter_listiter hIt ?_
  refine iloop ps stored Inv c₀ W ?_ ?_ ?_ F N hnI hk h0 (.head _) (fun i h st => let ⟨o, ho, _⟩ := st.1; ⟨o, ho⟩) ?_ done
  · intro hm
    rcases List.mem_cons.mp hm with e | hm
    · exact (N _ (.head _)).2.1 e.symm
    · exact (N _ (.tail _ hl0)).2.1 (List.mem_singleton.mp hm).symm
  · intro a ha
    rcases List.mem_cons.mp ha with e | ha
    · exact .inl e
    · rw [List.mem_singleton.mp ha]; exact .inr (.inr ⟨_, hl⟩)
  · rw [Nat.zero_add]; exact ⟨hIt, hL⟩
  · rintro i c v nx u h tk oI _ hP hi ha F' N'
    exact turn i c v nx u h tk oI (by simpa using hP) hi ha F' N'
/-- a loop over a made list whose turns keep nothing; the ledger is seen through G alone -/
theorem loop_list0 {x : Str} {body : List Stmt} {Q : Flow → Shared → Prop} {l : Addr} {vs : List Value} {nn : Nat} {m₀ : Str → Option Value} {G : Led → Prop} (hG : G news) (stored : List Str)
    (hh : A.handled = none) (F : Fr h₀ env.locals s.heap m₀) (N : News h₀ env.locals s.heap news) (hl : (l, listOf vs.toArray nn) ∈ news)
    (turn : ∀ (nw : Led) (I : Addr) (i : Nat) (v : Value) (u : Str → Option Value) h tk oI, G nw → (∀ p ∈ nw, p.1 < I) → vs[i]? = some v → Fr h₀ env.locals h (fun y => if y = x then some v else if stored.contains y then u y else m₀ y) → News h₀ env.locals h ((I, oI) :: nw) →
      wpAny (model prog w) A (execs body env) (ITurn h₀ env.locals I oI { s with heap := h, toks := tk } x (fun _ : Unit => []) stored m₀ (fun _ nx => nx = nw) Q) E { s with heap := h, toks := tk })
    (done : ∀ (u : Str → Option Value) h tk, Fr h₀ env.locals h (fun y => if y = x then u y else if stored.contains y then u y else m₀ y) → News h₀ env.locals h news → Q .next { s with heap := h, toks := tk }) :
    wpAny (model prog w) A (pyIter (.ref l)) (fun it s₂ => LoopAtV prog w A h₀ env x body Q E it s₂) E s := by
  have hol := (N _ hl).1
  have hL : s.heap.IsList l vs.toArray := ⟨_, hol, rfl, nn, rfl⟩
  have hne : l ≠ s.heap.objs.size := Nat.ne_of_lt (Heap.lt_size hol)
  have hnl : ∀ p ∈ news, p.1 < s.heap.objs.size := fun p hp => Heap.lt_size (N p hp).1
  refine wpAny_pyIter_list hL ?_
  have W := Walks.list (prog := prog) (w := w) hh s.heap.objs.size l hne vs.toArray
  refine iloop (fun _ : Unit => []) stored (fun _ _ nx => nx = news) () W ?_ ?_ ?_ (F.push _) (News.push F N _ rfl) (fun p hp => Nat.ne_of_lt (hnl p hp)) (fun _ h => nomatch h) rfl (.head _) (fun i h st => let ⟨o, ho, _⟩ := st.1; ⟨o, ho⟩) ?_ ?_
  · intro hm
    rcases List.mem_cons.mp hm with e | hm
    · exact absurd F.ns.lt (e ▸ Nat.lt_irrefl _)
    · exact (N _ hl).2.1 (List.mem_singleton.mp hm).symm
  · intro a ha
    rcases List.mem_cons.mp ha with e | ha
    · exact .inl e
    · rw [List.mem_singleton.mp ha]; exact .inr (.inr ⟨listOf vs.toArray nn, fun _ _ nx e => by rw [e]; exact hl⟩)
  · exact ⟨⟨_, Heap.get?_push_size _ rfl, rfl, rfl⟩, hL.at fun o e => Heap.get?_push_of_some _ e⟩
  · rintro i _ v nx u h tk oI _ hP rfl _ F' N'
    exact turn nx _ i v u h tk oI hG hnl (by simpa using hP) F' N'
  · rintro _ nx u h tk rfl _ F' N'
    exact done u h tk F' N'
end
end Mine

namespace Mine
set_option maxRecDepth 100000 in
set_option maxHeartbeats 8000000 in
open_top hd for PySem.Challenge.rw_nq0005_02
end Mine

-- I2
namespace Mine
def wordB (n : Nat) : List UInt8 := if n = 0 then [] else wordB (n / 16) ++ [UInt8.ofNat (65 + n % 16)]
termination_by n
decreasing_by omega
theorem wordB_step {n : Nat} (h : n ≠ 0) : wordB n = wordB (n / 16) ++ [UInt8.ofNat (65 + n % 16)] := by
  rw [wordB]; simp [h]
theorem wordB_zero : wordB 0 = [] := by rw [wordB]; simp
def IInv (n num : Int) (val : Array UInt8) : Prop := 0 ≤ num ∧ wordB n.natAbs = wordB num.toNat ++ val.toList
theorem iinv0 (n : Int) : IInv n (if n < 0 then -n else n) #[] := by
  have h : (if n < 0 then -n else n) = (n.natAbs : Int) := by split <;> omega
  refine ⟨by omega, ?_⟩
  rw [h]; simp
theorem picked_ap (k : Nat) (h : k < 16) : KBy.picked #[65, 66, 67, 68, 69, 70, 71, 72, 73, 74, 75, 76, 77, 78, 79, 80] (some (k : Int)) (some ((k : Int) + 1)) = #[UInt8.ofNat (65 + k)] := by
  have : ∀ k : Fin 16, KBy.picked #[65, 66, 67, 68, 69, 70, 71, 72, 73, 74, 75, 76, 77, 78, 79, 80] (some ((k.1 : Nat) : Int)) (some (((k.1 : Nat) : Int) + 1)) = #[UInt8.ofNat (65 + k.1)] := by decide +kernel
  exact this ⟨k, h⟩
theorem iinv_size {n num : Int} {val : Array UInt8} {c : UInt8} (h : IInv n num val) (hl : (wordB n.natAbs).length ≤ 1000) : #[c].size + val.size ≤ 16777216 := by
  have := congrArg List.length h.2
  simp only [List.length_append, Array.length_toList] at this
  have e : (#[c] : Array UInt8).size = 1 := rfl
  omega
theorem iinv1 {n num : Int} {val : Array UInt8} (h : IInv n num val) (hn : num ≠ 0) : IInv n (num.fdiv 16) (#[UInt8.ofNat (65 + (num.fmod 16).toNat)] ++ val) := by
  obtain ⟨h0, h1⟩ := h
  have e1 : num.fdiv 16 = ((num.toNat / 16 : Nat) : Int) := by rw [Int.fdiv_eq_ediv_of_nonneg _ (by decide)]; omega
  have e2 : (num.fmod 16).toNat = num.toNat % 16 := by rw [Int.fmod_eq_emod_of_nonneg _ (by decide)]; omega
  refine ⟨by omega, ?_⟩
  rw [h1, wordB_step (n := num.toNat) (by omega), e1, e2, Int.toNat_natCast]
  simp
theorem iinv_less {num : Int} (h0 : 0 ≤ num) (hn : num ≠ 0) : (num.fdiv 16).toNat < num.toNat := by
  have e1 : num.fdiv 16 = ((num.toNat / 16 : Nat) : Int) := by rw [Int.fdiv_eq_ediv_of_nonneg _ (by decide)]; omega
  omega
theorem iinv_end {n num : Int} {val : Array UInt8} (h : IInv n num val) (hn : num = 0) : val = (wordB n.natAbs).toArray := by
  obtain ⟨h0, h1⟩ := h
  subst hn
  rw [h1]; simp [wordB_zero]
section
variable {prog : Program} {w : World} {A : Around} {E : Value → Shared → Prop} {s : Shared} {value slice : PySem.Expr} {t : Tok} {h₀ : Heap} {L : Addr} {m : PySem.Str → Option Value} {news : List (Addr × Obj)} {Q : Value → Shared → Prop}
theorem ap_cut {i j : Int} {ti tj : Tok} (hF : Fr h₀ L s.heap m) (hN : News h₀ L s.heap news) (h0 : 0 ≤ i) (h1 : i < 16) (hj : j = i + 1)
    (h : ∀ h' t' k, Fr h₀ L h' m → News h₀ L h' news → Q (.bytes #[UInt8.ofNat (65 + i.toNat)] t') { s with heap := h', toks := k })
    (hs : subscripted slice false (.bytes #[65, 66, 67, 68, 69, 70, 71, 72, 73, 74, 75, 76, 77, 78, 79, 80] t) (.ref s.heap.objs.size) = operate [.ref s.heap.objs.size, .bytes #[65, 66, 67, 68, 69, 70, 71, 72, 73, 74, 75, 76, 77, 78, 79, 80] t] (getItem (.bytes #[65, 66, 67, 68, 69, 70, 71, 72, 73, 74, 75, 76, 77, 78, 79, 80] t) (.ref s.heap.objs.size)) := by with_unfolding_all rfl)
    (ht : ∀ r, letTemporaryGo value (.bytes #[65, 66, 67, 68, 69, 70, 71, 72, 73, 74, 75, 76, 77, 78, 79, 80] t) r = pure () := by intro _; with_unfolding_all rfl) :
    wpAny (model prog w) A (subscriptTail value slice (.bytes #[65, 66, 67, 68, 69, 70, 71, 72, 73, 74, 75, 76, 77, 78, 79, 80] t) (.ref s.heap.objs.size)) Q E { s with heap := s.heap.push { cls := .type "slice", data := .fields #[.int i ti, .int j tj, .none] } } := by
  subst hj
  refine KBc.slice_K hF hN rfl (.int _ _) (.int _ _) (by decide) (fun h' t' k F' N' _ => ?_) hs ht
  have := h h' t' k F' N'
  have e : i = ((i.toNat : Nat) : Int) := by omega
  rw [e, picked_ap i.toNat (by omega)]
  exact this
end
set_option maxRecDepth 100000 in
set_option maxHeartbeats 8000000 in
theorem int2ap {w : World} {p : Program} {loose : List Str} {mean : ExcName → Option Value} {mg mb : Str → Option Value} (news : List (Addr × Obj)) (n : Int) (t : Tok) :
  CbClaim Challenge.rw_nq0005_02.row.prog w (hd.heap_39 w.params) p loose mean mg mb 21 news [] ((wordB n.natAbs).length ≤ 1000) [.int n t] (fun t => .bytes (wordB n.natAbs).toArray t) := by
  k_fill
  dsimp only [CbClaim, CbLists, CbRet]
  intro dp un gd cn cs a ccd cl outer A₀ base h₀ L m s Q E B F X N T hk hlen hd' hu hret
  refine wpAny_call ?_
  k_dflt cell_enter
  k_with_none
  k_with "state" => exact iinv0 _
  k_with "state" => exact iinv1 (by assumption) (by assumption)
  k_with "measure" => exact iinv_less (And.left (by assumption : IInv _ _ _)) (by assumption)
  k_with "binaryOp Add bytes bytes" => (k_here; refine KBy.add_bytes (iinv_size (by assumption) hlen) ?_; intro t' k')
  k_with "exec While Name cons nil" => k_while (fun _ num val => IInv n num val) (fun _ num _ => num.toNat) "num" "val"
  k_with "subscriptTail Name" => (
    k_here; (with_reducible rename Fr _ _ _ _ => F'); (with_reducible rename News _ _ _ _ => N');
    refine ap_cut (s := ⟨_, _, _, _, _⟩) F' N' ?h0 ?h1 rfl ?_
    case h0 => exact Int.fmod_nonneg_of_pos _ (by decide)
    case h1 => exact Int.fmod_lt_of_pos _ (by decide)
    intro h' t' k' F' N')
  k_steps
  have e := iinv_end (by assumption) (by assumption)
  rw [e]
  exact hret _ _ _ (by k_asm) (by k_asm)
end Mine

-- V2
namespace Mine
def ones (n : Nat) : Nat := if n = 0 then 0 else n % 2 + ones (n / 2)
termination_by n
decreasing_by omega
theorem ones_zero : ones 0 = 0 := by rw [ones]; simp
theorem ones_step (n : Nat) : ones n = n % 2 + ones (n / 2) := by
  by_cases h : n = 0
  · subst h; simp [ones_zero]
  · rw [ones]; simp [h]
def carr (a b c : Nat) : Nat := if a = 0 ∧ b = 0 then 0 else (a % 2 + b % 2 + c) / 2 + carr (a / 2) (b / 2) ((a % 2 + b % 2 + c) / 2)
termination_by a + b
decreasing_by omega
theorem carr_zero (c : Nat) : carr 0 0 c = 0 := by rw [carr]; simp
theorem carr_step {a b c : Nat} (h : ¬ (a = 0 ∧ b = 0)) : carr a b c = (a % 2 + b % 2 + c) / 2 + carr (a / 2) (b / 2) ((a % 2 + b % 2 + c) / 2) := by
  rw [carr]; simp [h]
theorem carr_ones : ∀ (s a b c : Nat), a + b ≤ s → c ≤ 1 → ones a + ones b + c = ones (a + b + c) + carr a b c := by
  intro s
  induction s with
  | zero =>
    intro a b c h hc
    have : a = 0 := by omega
    have : b = 0 := by omega
    subst a b
    rw [carr_zero]
    have : c = 0 ∨ c = 1 := by omega
    rcases this with rfl | rfl <;> simp [ones_zero, ones_step 1]
  | succ s ih =>
    intro a b c h hc
    by_cases h0 : a = 0 ∧ b = 0
    · obtain ⟨rfl, rfl⟩ := h0
      rw [carr_zero]
      have : c = 0 ∨ c = 1 := by omega
      rcases this with rfl | rfl <;> simp [ones_zero, ones_step 1]
    · rw [carr_step h0]
      have h1 := ih (a / 2) (b / 2) ((a % 2 + b % 2 + c) / 2) (by omega) (by omega)
      rw [ones_step a, ones_step b, ones_step (a + b + c)]
      have e : (a + b + c) / 2 = a / 2 + b / 2 + (a % 2 + b % 2 + c) / 2 := by omega
      rw [e]
      omega
theorem carr_is (a b : Nat) : carr a b 0 + ones (a + b) = ones a + ones b := by
  have := carr_ones (a + b) a b 0 (Nat.le_refl _) (by decide)
  simp at this; omega
/-- how often a number can be halved -/
def val2 (n : Nat) : Nat := if n = 0 then 0 else if n % 2 = 0 then val2 (n / 2) + 1 else 0
termination_by n
decreasing_by omega
theorem val2_odd {n : Nat} (h : n % 2 = 1) : val2 n = 0 := by rw [val2]; simp [h]
theorem val2_even {n : Nat} (h0 : n ≠ 0) (h : n % 2 = 0) : val2 n = val2 (n / 2) + 1 := by rw [val2]; simp [h0, h]
theorem val2_dbl {n : Nat} (h0 : n ≠ 0) : val2 (2 * n) = val2 n + 1 := by
  rw [val2_even (by omega) (by omega)]; congr 2; omega
theorem val2_mul : ∀ (s a b : Nat), a + b ≤ s → a ≠ 0 → b ≠ 0 → val2 (a * b) = val2 a + val2 b := by
  intro s
  induction s with
  | zero => intro a b h ha; omega
  | succ s ih =>
    intro a b h ha hb
    have hab : a * b ≠ 0 := Nat.mul_ne_zero ha hb
    by_cases h1 : a % 2 = 0
    · have e : a = 2 * (a / 2) := by omega
      have hab' : a / 2 * b ≠ 0 := Nat.mul_ne_zero (by omega) hb
      have := ih (a / 2) b (by omega) (by omega) hb
      rw [val2_even ha h1]
      rw [e, Nat.mul_assoc, val2_dbl hab', this, ← e]
      omega
    · by_cases h2 : b % 2 = 0
      · have e : b = 2 * (b / 2) := by omega
        have hab' : a * (b / 2) ≠ 0 := Nat.mul_ne_zero ha (by omega)
        have := ih a (b / 2) (by omega) ha (by omega)
        rw [val2_even hb h2]
        rw [e, ← Nat.mul_assoc, Nat.mul_comm a 2, Nat.mul_assoc, val2_dbl hab', this, ← e]
        omega
      · have : (a * b) % 2 = 1 := by rw [Nat.mul_mod]; simp [show a % 2 = 1 by omega, show b % 2 = 1 by omega]
        rw [val2_odd this, val2_odd (by omega), val2_odd (by omega)]
theorem val2_16 {k : Nat} (h : k ≠ 0) : val2 (16 * k) = val2 k + 4 := by
  rw [show 16 * k = 2 * (2 * (2 * (2 * k))) by omega, val2_dbl (by omega), val2_dbl (by omega), val2_dbl (by omega), val2_dbl h]
theorem val2_last {n : Nat} (h : n % 16 ≠ 0) : val2 n = val2 (n % 16) := by
  have key : ∀ m : Nat, m % 2 = 1 → ∀ m', m' % 2 = 1 → val2 m = val2 m' := fun m h m' h' => by rw [val2_odd h, val2_odd h']
  by_cases h1 : n % 2 = 1
  · exact key _ h1 _ (by omega)
  · rw [val2_even (n := n) (by omega) (by omega), val2_even (n := n % 16) (by omega) (by omega)]
    congr 1
    by_cases h2 : n / 2 % 2 = 1
    · exact key _ h2 _ (by omega)
    · rw [val2_even (n := n / 2) (by omega) (by omega), val2_even (n := n % 16 / 2) (by omega) (by omega)]
      congr 1
      by_cases h3 : n / 2 / 2 % 2 = 1
      · exact key _ h3 _ (by omega)
      · rw [val2_even (n := n / 2 / 2) (by omega) (by omega), val2_even (n := n % 16 / 2 / 2) (by omega) (by omega)]
        congr 1
        exact key _ (by omega) _ (by omega)
def fac : Nat → Nat
  | 0 => 1
  | n + 1 => fac n * (n + 1)
theorem fac_pos : ∀ n, 0 < fac n
  | 0 => by decide
  | n + 1 => Nat.mul_pos (fac_pos n) (Nat.succ_pos n)
theorem ones_succ : ∀ (s n : Nat), n ≤ s → ones (n + 1) + val2 (n + 1) = ones n + 1 := by
  intro s
  induction s with
  | zero => intro n h; have : n = 0 := by omega
            subst this; simp [ones_zero, ones_step 1, val2_odd (n := 1)]
  | succ s ih =>
    intro n h
    by_cases h0 : n % 2 = 0
    · rw [val2_odd (n := n + 1) (by omega), ones_step (n + 1), ones_step n, show (n + 1) / 2 = n / 2 by omega]; omega
    · rw [val2_even (n := n + 1) (by omega) (by omega), ones_step (n + 1), ones_step n, show (n + 1) / 2 = n / 2 + 1 by omega]
      have := ih (n / 2) (by omega)
      omega
/-- Legendre -/
theorem val2_fac : ∀ n, val2 (fac n) + ones n = n
  | 0 => by simp [fac, ones_zero, val2_odd (n := 1)]
  | n + 1 => by
    have h := val2_fac n
    have := ones_succ n n (Nat.le_refl _)
    show val2 (fac n * (n + 1)) + _ = _
    rw [val2_mul _ _ _ (Nat.le_refl _) (by have := fac_pos n; omega) (by omega)]
    omega
/-- how many ways to choose k of t + k -/
def ch : Nat → Nat → Nat
  | _, 0 => 1
  | 0, _ + 1 => 1
  | t + 1, k + 1 => ch t (k + 1) + ch (t + 1) k
theorem ch_fac : ∀ (s t k : Nat), t + k ≤ s → ch t k * (fac k * fac t) = fac (t + k) := by
  intro s
  induction s with
  | zero =>
    intro t k h
    have : t = 0 := by omega
    have : k = 0 := by omega
    subst t k; simp [ch, fac]
  | succ s ih =>
    intro t k h
    match t, k with
    | t, 0 => simp [ch, fac]
    | 0, k + 1 => simp [ch, fac]
    | t + 1, k + 1 =>
      have h1 := ih t (k + 1) (by omega)
      have h2 := ih (t + 1) k (by omega)
      rw [ch, Nat.add_mul]
      have e1 : ch t (k + 1) * (fac (k + 1) * fac (t + 1)) = fac (t + (k + 1)) * (t + 1) := by
        rw [← h1]; show ch t (k + 1) * (fac (k + 1) * (fac t * (t + 1))) = _
        simp only [Nat.mul_assoc]
      have e2 : ch (t + 1) k * (fac (k + 1) * fac (t + 1)) = fac (t + 1 + k) * (k + 1) := by
        rw [← h2]; show ch (t + 1) k * (fac k * (k + 1) * fac (t + 1)) = _
        rw [Nat.mul_assoc, Nat.mul_assoc, Nat.mul_comm (k + 1) (fac (t + 1)), Nat.mul_assoc]
      rw [e1, e2, show t + (k + 1) = t + 1 + k by omega, ← Nat.mul_add, show t + 1 + (k + 1) = t + 1 + k + 1 by omega]
      show _ = fac (t + 1 + k) * (t + 1 + k + 1)
      congr 1
theorem ch_step (t k : Nat) : ch t k * (t + k + 1) = ch t (k + 1) * (k + 1) := by
  have h1 := ch_fac _ t k (Nat.le_refl _)
  have h2 := ch_fac _ t (k + 1) (Nat.le_refl _)
  have hp : 0 < fac k * fac t := Nat.mul_pos (fac_pos k) (fac_pos t)
  refine Nat.eq_of_mul_eq_mul_right hp ?_
  have e1 : ch t k * (t + k + 1) * (fac k * fac t) = fac (t + k + 1) := by
    show _ = fac (t + k) * (t + k + 1)
    rw [← h1, Nat.mul_assoc, Nat.mul_comm (t + k + 1), ← Nat.mul_assoc]
  rw [e1]
  have : ch t (k + 1) * (fac (k + 1) * fac t) = ch t (k + 1) * (k + 1) * (fac k * fac t) := by
    show ch t (k + 1) * (fac k * (k + 1) * fac t) = _
    rw [Nat.mul_comm (fac k) (k + 1)]
    simp only [Nat.mul_assoc]
  rw [← this, h2]; rfl
theorem ch_pos : ∀ t k, 0 < ch t k := by
  intro t k
  have := ch_fac _ t k (Nat.le_refl _)
  have hp := fac_pos (t + k)
  rw [← this] at hp
  exact Nat.pos_of_mul_pos_right hp
end Mine

-- C2a
namespace Mine
/-- one, other, carry, count in the loop of _law_carries -/
def CInv (A B : Nat) (one other carry count : Int) : Prop := 0 ≤ one ∧ 0 ≤ other ∧ 0 ≤ carry ∧ 0 ≤ count ∧ count.toNat + carr one.toNat other.toNat carry.toNat = carr A B 0
theorem cinv0 (A B : Nat) : CInv A B A B 0 0 := ⟨by omega, by omega, by omega, by omega, by simp⟩
theorem fdiv2 (x : Int) : x.fdiv 2 = x / 2 := Int.fdiv_eq_ediv_of_nonneg _ (by decide)
theorem fmod2 (x : Int) : x.fmod 2 = x % 2 := Int.fmod_eq_emod_of_nonneg _ (by decide)
theorem cinv1 {A B : Nat} {one other carry count : Int} (h : CInv A B one other carry count) (hn : 0 < one ∨ 0 < other) :
    CInv A B (one.fdiv 2) (other.fdiv 2) ((one.fmod 2 + other.fmod 2 + carry).fdiv 2) (count + (one.fmod 2 + other.fmod 2 + carry).fdiv 2) := by
  obtain ⟨h1, h2, h3, h4, h5⟩ := h
  rw [carr_step (by omega)] at h5
  simp only [fdiv2, fmod2]
  refine ⟨by omega, by omega, by omega, by omega, ?_⟩
  have e1 : (one / 2).toNat = one.toNat / 2 := by omega
  have e2 : (other / 2).toNat = other.toNat / 2 := by omega
  have e3 : ((one % 2 + other % 2 + carry) / 2).toNat = (one.toNat % 2 + other.toNat % 2 + carry.toNat) / 2 := by omega
  rw [e1, e2, e3]
  omega
theorem cinv_less {A B : Nat} {one other carry count : Int} (h : CInv A B one other carry count) (hn : 0 < one ∨ 0 < other) : (one.fdiv 2 + other.fdiv 2).toNat < (one + other).toNat := by
  obtain ⟨h1, h2, h3, h4, h5⟩ := h
  simp only [fdiv2]; omega
theorem cinv_end {A B : Nat} {one other carry count : Int} (h : CInv A B one other carry count) (h1 : ¬ 0 < one) (h2 : ¬ 0 < other) : count = (carr A B 0 : Nat) := by
  obtain ⟨k1, k2, h3, h4, h5⟩ := h
  rw [show one.toNat = 0 by omega, show other.toNat = 0 by omega, carr_zero] at h5
  omega
set_option maxRecDepth 100000 in
set_option maxHeartbeats 8000000 in
theorem carries_spec {w : World} {p : Program} {loose : List Str} {mean : ExcName → Option Value} {mg mb : Str → Option Value} (news : Led) (A B' : Nat) (t1 t2 : Tok) :
  FnSpec Challenge.rw_nq0005_02.row.prog w (hd.heap_39 w.params) p loose mean mg mb (.ref 37) [.int (A : Int) t1, .int (B' : Int) t2] 1 8 news (fun r n => (∃ t, r = .int (carr A B' 0 : Nat) t) ∧ n = news) := by
  k_fill
  intro dp un gd cn cs a ccd cl outer A₀ base h₀ L m s Q E B F X N T hk hd' hu hret
  refine wpAny_call ?_
  k_dflt cell_enter
  k_with_none
  k_with "exec While BoolOp cons nil" => k_while (fun _ one other carry count => CInv A B' one other carry count) (fun _ one other _ _ => (one + other).toNat) "one" "other" "carry" "count"
  k_with "state" => exact cinv0 _ _
  k_with "state" => exact cinv1 (by assumption) (by first | exact .inl (by assumption) | exact .inr (by assumption))
  k_with "measure" => exact cinv_less (by assumption) (by first | exact .inl (by assumption) | exact .inr (by assumption))
  k_steps
  have e := cinv_end (by assumption) (by assumption) (by assumption)
  rw [e]
  exact hret _ news _ _ (by k_asm) (News.sub (by assumption) (fun p hp => List.mem_cons_of_mem _ hp)) ⟨⟨_, rfl⟩, rfl⟩
end Mine

-- C2b
namespace Mine
def OInv (A : Nat) (number count : Int) : Prop := 0 ≤ number ∧ 0 ≤ count ∧ count.toNat + ones number.toNat = ones A
theorem oinv0 (A : Nat) : OInv A A 0 := ⟨by omega, by omega, by simp⟩
theorem oinv1 {A : Nat} {number count : Int} (h : OInv A number count) (hn : number > 0) : OInv A (number.fdiv 2) (count + number.fmod 2) := by
  obtain ⟨h1, h2, h3⟩ := h
  rw [ones_step number.toNat] at h3
  simp only [Int.fdiv_eq_ediv_of_nonneg _ (show (0 : Int) ≤ 2 by decide), Int.fmod_eq_emod_of_nonneg _ (show (0 : Int) ≤ 2 by decide)]
  refine ⟨by omega, by omega, ?_⟩
  rw [show (number / 2).toNat = number.toNat / 2 by omega]
  omega
theorem oinv_less {A : Nat} {number count : Int} (h : OInv A number count) (hn : number > 0) : (number.fdiv 2).toNat < number.toNat := by
  simp only [Int.fdiv_eq_ediv_of_nonneg _ (show (0 : Int) ≤ 2 by decide)]; omega
theorem oinv_end {A : Nat} {number count : Int} (h : OInv A number count) (hn : ¬ number > 0) : count = (ones A : Nat) := by
  obtain ⟨h1, h2, h3⟩ := h
  rw [show number.toNat = 0 by omega, ones_zero] at h3
  omega
set_option maxRecDepth 100000 in
set_option maxHeartbeats 8000000 in
theorem ones_spec {w : World} {p : Program} {loose : List Str} {mean : ExcName → Option Value} {mg mb : Str → Option Value} (news : Led) (A : Nat) (t1 : Tok) :
  FnSpec Challenge.rw_nq0005_02.row.prog w (hd.heap_39 w.params) p loose mean mg mb (.ref 58) [.int (A : Int) t1] 1 8 news (fun r n => (∃ t, r = .int (ones A : Nat) t) ∧ n = news) := by
  k_fill
  intro dp un gd cn cs a ccd cl outer A₀ base h₀ L m s Q E B F X N T hk hd' hu hret
  refine wpAny_call ?_
  k_dflt cell_enter
  k_with_none
  k_with "state" => exact oinv0 _
  k_with "state" => exact oinv1 (by assumption) (by assumption)
  k_with "measure" => exact oinv_less (by assumption) (by assumption)
  k_with "exec While Compare cons nil" => k_while (fun _ number count => OInv A number count) (fun _ number _ => number.toNat) "number" "count"
  k_steps
  have e := oinv_end (by assumption) (by assumption)
  rw [e]
  exact hret _ _ _ _ (by k_asm) (by k_asm) ⟨⟨_, rfl⟩, rfl⟩
end Mine

-- C2c
namespace Mine
theorem fold_fac : ∀ (k : Nat) (a j : Int), 0 ≤ j → a = (fac (j.toNat) : Nat) → (List.foldl (fun (σ : Int × Unit) k => (σ.fst * k, ())) (a, ()) (rangeInts (j + 1) 1 k)).fst = (fac (j.toNat + k) : Nat)
  | 0, a, j, _, h => by simpa [rangeInts] using h
  | k + 1, a, j, h0, h => by
    have := fold_fac k (a * (j + 1)) (j + 1) (by omega) (by rw [h, show (j + 1).toNat = j.toNat + 1 by omega]; show _ = ((fac j.toNat * (j.toNat + 1) : Nat) : Int); rw [Int.natCast_mul]; congr 1; omega)
    rw [show j.toNat + (k + 1) = (j + 1).toNat + k by omega, ← this]
    rw [PyProof.Rows.rangeInts_succ]
    rfl
theorem fac_loop (A : Nat) : (List.foldl (fun (σ : Int × Unit) k => (σ.fst * k, ())) (1, ()) (rangeInts 2 1 ((A : Int) + 1 - 2).toNat)).fst = (fac A : Nat) := by
  have := fold_fac ((A : Int) + 1 - 2).toNat 1 1 (by decide) (by decide)
  rw [show (1 : Int) + 1 = 2 by decide] at this
  rw [this]
  cases A with
  | zero => decide
  | succ A => congr 2; omega
set_option maxRecDepth 100000 in
set_option maxHeartbeats 8000000 in
theorem fac_spec {w : World} {p : Program} {loose : List Str} {mean : ExcName → Option Value} {mg mb : Str → Option Value} (news : Led) (A : Nat) (t1 : Tok) (hA : A ≤ 100) :
  FnSpec Challenge.rw_nq0005_02.row.prog w (hd.heap_39 w.params) p loose mean mg mb (.ref 65) [.int (A : Int) t1] 1 8 news (fun r n => (∃ t, r = .int (fac A : Nat) t) ∧ n = news) := by
  k_fill
  intro dp un gd cn cs a ccd cl outer A₀ base h₀ L m s Q E B F X N T hk hd' hu hret
  refine wpAny_call ?_
  k_dflt cell_enter
  k_with_none
  k_steps
  exact hret _ _ _ _ (by k_asm) (by k_asm) ⟨⟨_, congrArg (Value.int · _) (fac_loop A)⟩, rfl⟩
end Mine

-- C2d
namespace Mine
theorem wordB_len : ∀ (k n : Nat), n < 16 ^ k → (wordB n).length ≤ k
  | 0, n, h => by have : n = 0 := by simpa using h
                  subst this; rw [wordB_zero]; simp
  | k + 1, n, h => by
    by_cases h0 : n = 0
    · subst h0; rw [wordB_zero]; simp
    · rw [wordB_step h0, List.length_append]
      have := wordB_len k (n / 16) (by rw [Nat.pow_succ] at h; omega)
      simp; omega
theorem picked_last (l : List UInt8) (x : UInt8) : KBy.picked (l ++ [x]).toArray (some (-1)) none = #[x] := by
  rw [KBc.picked_eq]
  have e : clipAt (l ++ [x]).toArray.size (-1) = l.length := by
    rw [show (-1 : Int) = -((1 : Nat) : Int) from rfl, clipAt_neg _ _ (by decide)]; simp
  simp only [Option.elim, e]
  simp
theorem picked_init (l : List UInt8) (x : UInt8) : KBy.picked (l ++ [x]).toArray none (some (-1)) = l.toArray := by
  rw [KBc.picked_eq]
  have e : clipAt (l ++ [x]).toArray.size (-1) = l.length := by
    rw [show (-1 : Int) = -((1 : Nat) : Int) from rfl, clipAt_neg _ _ (by decide)]; simp
  simp only [Option.elim, e]
  simp
/-- the word in the first loop of _law_halvings -/
def HInv (M : Nat) (word : Array UInt8) (count : Int) : Prop := ∃ m, 0 < m ∧ m < 16 ^ 100 ∧ word = (wordB m).toArray ∧ 0 ≤ count ∧ count.toNat + val2 m = val2 M
theorem hinv0 {M : Nat} (h : 0 < M) (h' : M < 16 ^ 100) : HInv M (wordB M).toArray 0 := ⟨M, h, h', rfl, by decide, by simp⟩
theorem hinv1 {M m : Nat} {count : Int} (h : 0 < m) (h' : m < 16 ^ 100) (hc : 0 ≤ count) (e : count.toNat + val2 m = val2 M) (h0 : m % 16 = 0) : HInv M (wordB (m / 16)).toArray (count + 4) := by
  refine ⟨m / 16, by omega, by omega, rfl, by omega, ?_⟩
  rw [← e, show m = 16 * (m / 16) by omega, val2_16 (by omega), show 16 * (m / 16) / 16 = m / 16 by omega]
  omega
theorem hinv_less {b : Array UInt8} {n : Nat} (hn : 0 < n) (hb : b = (wordB n).toArray) : (wordB (n / 16)).toArray.size < b.size := by
  rw [hb, wordB_step (show n ≠ 0 by omega)]; simp
section
variable {prog : Program} {w : World} {A : Around} {E : Value → Shared → Prop} {s : Shared} {value slice : PySem.Expr} {t : Tok} {h₀ : Heap} {L : Addr} {m : PySem.Str → Option Value} {news : List (Addr × Obj)} {Q : Value → Shared → Prop}
theorem tail_cut {M : Nat} {b : Array UInt8} {count : Int} {ti : Tok} (hI : HInv M b count) (hF : Fr h₀ L s.heap m) (hN : News h₀ L s.heap news)
    (h : ∀ n h' t' k, 0 < n → n < 16 ^ 100 → b = (wordB n).toArray → 0 ≤ count → count.toNat + val2 n = val2 M → Fr h₀ L h' m → News h₀ L h' news → Q (.bytes #[UInt8.ofNat (65 + n % 16)] t') { s with heap := h', toks := k })
    (hs : subscripted slice false (.bytes b t) (.ref s.heap.objs.size) = operate [.ref s.heap.objs.size, .bytes b t] (getItem (.bytes b t) (.ref s.heap.objs.size)) := by with_unfolding_all rfl)
    (ht : ∀ r, letTemporaryGo value (.bytes b t) r = pure () := by intro _; with_unfolding_all rfl) :
    wpAny (model prog w) A (subscriptTail value slice (.bytes b t) (.ref s.heap.objs.size)) Q E { s with heap := s.heap.push { cls := .type "slice", data := .fields #[.int (-1) ti, .none, .none] } } := by
  obtain ⟨n, h1, h2, rfl, h4, h5⟩ := hI
  have hl := wordB_len 100 n h2
  refine KBc.slice_K hF hN rfl (.int _ _) .none (by rw [KBw.ints_length]; simp; omega) (fun h' t' k F' N' _ => ?_) hs ht
  have := h n h' t' k h1 h2 rfl h4 h5 F' N'
  rw [wordB_step (show n ≠ 0 by omega), picked_last]
  exact this
theorem init_cut {b : Array UInt8} {n : Nat} {ti : Tok} (hn : 0 < n) (hn' : n < 16 ^ 100) (hb : b = (wordB n).toArray) (hF : Fr h₀ L s.heap m) (hN : News h₀ L s.heap news)
    (h : ∀ h' t' k, Fr h₀ L h' m → News h₀ L h' news → Q (.bytes (wordB (n / 16)).toArray t') { s with heap := h', toks := k })
    (hs : subscripted slice false (.bytes b t) (.ref s.heap.objs.size) = operate [.ref s.heap.objs.size, .bytes b t] (getItem (.bytes b t) (.ref s.heap.objs.size)) := by with_unfolding_all rfl)
    (ht : ∀ r, letTemporaryGo value (.bytes b t) r = pure () := by intro _; with_unfolding_all rfl) :
    wpAny (model prog w) A (subscriptTail value slice (.bytes b t) (.ref s.heap.objs.size)) Q E { s with heap := s.heap.push { cls := .type "slice", data := .fields #[.none, .int (-1) ti, .none] } } := by
  subst hb
  have hl := wordB_len 100 n hn'
  refine KBc.slice_K hF hN rfl .none (.int _ _) (by rw [KBw.ints_length]; simp; omega) (fun h' t' k F' N' _ => ?_) hs ht
  have := h h' t' k F' N'
  rw [wordB_step (show n ≠ 0 by omega), picked_init]
  exact this
theorem last_item {b : Array UInt8} {n : Nat} {ti : Tok} (hn : 0 < n) (hn' : n < 16 ^ 100) (hb : b = (wordB n).toArray)
    (h : ∀ t' k, Q (.int (65 + (n % 16 : Nat)) t') { s with toks := k })
    (hs : subscripted slice false (.bytes b t) (.int (-1) ti) = operate [.bytes b t, .int (-1) ti] (getItem (.bytes b t) (.int (-1) ti)) := by with_unfolding_all rfl)
    (ht : ∀ r, letTemporaryGo value (.bytes b t) r = pure () := by intro _; with_unfolding_all rfl) :
    wpAny (model prog w) A (subscriptTail value slice (.bytes b t) (.int (-1) ti)) Q E s := by
  subst hb
  have hl := wordB_len 100 n hn'
  have e : KBw.bInts (wordB n).toArray = KBw.bInts (wordB (n / 16)).toArray ++ [((65 + n % 16 : Nat) : Int)] := by
    rw [wordB_step (show n ≠ 0 by omega)]
    simp [KBw.bInts]
    omega
  have hlen : (KBw.bInts (wordB n).toArray).length = (wordB n).length := by rw [KBw.ints_length]; simp
  have hlen2 : (KBw.bInts (wordB (n / 16)).toArray).length = (wordB (n / 16)).length := by rw [KBw.ints_length]; simp
  have hw : (wordB n).length = (wordB (n / 16)).length + 1 := by rw [wordB_step (show n ≠ 0 by omega)]; simp
  refine KBc.itemR_K rfl (by omega) (by omega) (by decide) (fun t' k _ _ => ?_) hs ht
  have := h t' k
  have e2 : (KBw.bInts (wordB n).toArray).getD (-1 + ((KBw.bInts (wordB n).toArray).length : Int)).toNat 0 = 65 + ((n % 16 : Nat) : Int) := by
    rw [show (-1 + ((KBw.bInts (wordB n).toArray).length : Int)).toNat = (KBw.bInts (wordB (n / 16)).toArray).length by omega, e]
    simp
  rw [e2]; exact this
theorem eq_A {n : Nat} {t u : Tok} (h : Q (.bool (decide (n % 16 = 0))) s) : wpAny (model prog w) A (compareOp .Eq (.bytes #[UInt8.ofNat (65 + n % 16)] t) (.bytes #[65] u)) Q E s := by
  refine eq_bytes ?_
  have key : ∀ k : Fin 16, ((#[UInt8.ofNat (65 + k.1)] : Array UInt8).toList == (#[65] : Array UInt8).toList) = decide (k.1 = 0) := by decide +kernel
  rw [key ⟨n % 16, by omega⟩]
  exact h
end
/-- the second loop -/
def GInv (M : Nat) (last count : Int) : Prop := 0 < last ∧ 0 ≤ count ∧ count.toNat + val2 last.toNat = val2 M
theorem ginv0 {M n : Nat} {count : Int} (hc : 0 ≤ count) (e : count.toNat + val2 n = val2 M) (h0 : ¬ n % 16 = 0) : GInv M (65 + ((n % 16 : Nat) : Int) - 65) count := by
  rw [val2_last h0] at e
  rw [show (65 + ((n % 16 : Nat) : Int) - 65) = ((n % 16 : Nat) : Int) by omega]
  exact ⟨by omega, hc, e⟩
theorem ginv1 {M : Nat} {last count : Int} (h : GInv M last count) (h0 : last.fmod 2 = 0) : GInv M (last.fdiv 2) (count + 1) := by
  obtain ⟨h1, h2, h3⟩ := h
  rw [Int.fmod_eq_emod_of_nonneg _ (by decide)] at h0
  rw [Int.fdiv_eq_ediv_of_nonneg _ (by decide)]
  refine ⟨by omega, by omega, ?_⟩
  rw [val2_even (n := last.toNat) (by omega) (by omega)] at h3
  rw [show (last / 2).toNat = last.toNat / 2 by omega]
  omega
theorem ginv_less {M : Nat} {last count : Int} (h : GInv M last count) : (last.fdiv 2).toNat < last.toNat := by
  have := h.1
  rw [Int.fdiv_eq_ediv_of_nonneg _ (by decide)]; omega
theorem ginv_end {M : Nat} {last count : Int} (h : GInv M last count) (h0 : ¬ last.fmod 2 = 0) : count = (val2 M : Nat) := by
  obtain ⟨h1, h2, h3⟩ := h
  rw [Int.fmod_eq_emod_of_nonneg _ (by decide)] at h0
  rw [val2_odd (n := last.toNat) (by omega)] at h3
  omega
set_option maxRecDepth 100000 in
set_option maxHeartbeats 8000000 in
theorem halv_spec {w : World} {p : Program} {loose : List Str} {mean : ExcName → Option Value} {mg mb : Str → Option Value} (news : Led) (M : Nat) (tb : Tok) (hM : 0 < M) (hM' : M < 16 ^ 100) :
  FnSpec Challenge.rw_nq0005_02.row.prog w (hd.heap_39 w.params) p loose mean mg mb (.ref 51) [.bytes (wordB M).toArray tb] 1 8 news (fun r n => (∃ t, r = .int (val2 M : Nat) t) ∧ n = news) := by
  k_fill
  intro dp un gd cn cs a ccd cl outer A₀ base h₀ L m s Q E B F X N T hk hd' hu hret
  refine wpAny_call ?_
  k_dflt cell_enter
  k_with_none
  k_with "state" => exact hinv0 hM hM'
  k_with "state" => exact hinv1 (by assumption) (by assumption) (by assumption) (by assumption) (by assumption)
  k_with "state" => exact ginv0 (by assumption) (by assumption) (by assumption)
  k_with "state" => exact ginv1 (by assumption) (by assumption)
  k_with "measure" => exact ginv_less (by assumption)
  k_with "measure" => exact hinv_less (by assumption) (by assumption)
  k_with "exec While Compare cons nil" => k_while (fun _ last count => GInv M last count) (fun _ last _ => last.toNat) "last" "count"
  k_with "exec While Compare cons nil" => k_while (fun _ word count => HInv M word count) (fun _ word _ => word.size) "word" "count"
  k_with "subscriptTail Name" => (
    k_here; (with_reducible rename Fr _ _ _ _ => F'); (with_reducible rename News _ _ _ _ => N');
    first
    | (refine tail_cut (s := ⟨_, _, _, _, _⟩) (by assumption) F' N' ?_; intro n' h' t' k' hn1' hn2' hn3' hn4' hn5' F' N')
    | (refine init_cut (s := ⟨_, _, _, _, _⟩) (by assumption) (by assumption) (by assumption) F' N' ?_; intro h' t' k' F' N')
    | (refine last_item (by assumption) (by assumption) (by assumption) ?_; intro t' k'))
  k_with "compareOp Eq bytes bytes" => (k_here; refine eq_A ?_)
  k_steps
  have e := ginv_end (by assumption) (by assumption)
  rw [e]
  exact hret _ _ _ _ (by k_asm) (by k_asm) ⟨⟨_, rfl⟩, rfl⟩
end Mine

-- En
namespace Mine
/-- every entry lies below -/
def Low (L : Addr) (news : Led) : Prop := ∀ p ∈ news, p.1 < L
theorem Low.of {L : Addr} {news : Led} (h : ∀ p ∈ news, p.1 < L) : Low L news := h
end Mine

-- Lm
namespace Mine
open PySem.Calls PySem.Spec
/-- the table of a def that makes one lambda: empty, or holding that lambda's code -/
def LamTab (pos : Pos) (qual : Str) (T : Obj) (rest : Led) : Prop :=
  T = tabObj #[] ∨ ∃ c' oc vs t, T = tabObj #[rawInt pos.line, rawInt pos.col, .ref c'] ∧ (c', oc) ∈ rest ∧ oc.data = .fields vs ∧ vs[1]? = some (.str qual t)
theorem LamTab.mono {pos : Pos} {qual : Str} {T : Obj} {rest rest' : Led} (h : LamTab pos qual T rest) (hs : ∀ p ∈ rest, p ∈ rest') : LamTab pos qual T rest' := by
  rcases h with h | ⟨c', oc, vs, t, h1, h2, h3, h4⟩
  · exact .inl h
  · exact .inr ⟨c', oc, vs, t, h1, hs _ h2, h3, h4⟩
section
variable {M : Model} {A : Around} {E : Value → Shared → Prop} {s : Shared} {h₀ : Heap} {L a c P : Addr} {m mg mb : Str → Option Value} {cn : Str} {cs : Scope} {ccd : Value} {cl : List (Str × Addr)} {rest : Led}
  {p : Program} {loose : List Str} {mean : ExcName → Option Value} {params : Arguments} {body : PySem.Expr} {scope : Scope} {pos : Pos} {clos : List (Str × Addr)} {T : Obj} {rest₀ : Led}
theorem lam_any {Q : Value → Shared → Prop} (F : Fr h₀ L s.heap m) (N : News h₀ L s.heap ((P, T) :: rest)) (Tp : Top p loose mean mg mb h₀) (C : CodeHd h₀ c P) (hcd : ccd = .ref c) (hP : ∀ q ∈ rest, q.1 ≠ P)
    (hs : ∀ p ∈ rest₀, p ∈ rest) (hT : LamTab pos ((envX cn cs L a ccd cl).qual ++ "<lambda>") T rest₀) (hdef : defaultsOf params (envX cn cs L a ccd cl) = ([], [])) (hcl : closureFor scope (envX cn cs L a ccd cl) = pure clos)
    (h : ∀ f c' oc vs t ctv T' extra h' tk, Fr h₀ L h' m →
      News h₀ L h' ((f, kla_obj "<lambda>" ((envX cn cs L a ccd cl).qual ++ "<lambda>") params body scope clos ((mg "__name__").getD .none) c' ctv) :: (P, T') :: (extra ++ rest)) →
      (∀ x ∈ extra, ∀ q ∈ (P, T) :: rest, q.1 < x.1) → P < f → (∀ q ∈ extra ++ rest, q.1 < f) → LamTab pos ((envX cn cs L a ccd cl).qual ++ "<lambda>") T' (extra ++ rest₀) → (c', oc) ∈ extra ++ rest₀ → oc.data = .fields vs → vs[1]? = some (.str ((envX cn cs L a ccd cl).qual ++ "<lambda>") t) → Q (.ref f) { s with heap := h', toks := tk }) :
    wpAny M A (eval (.Lambda params body scope pos) (envX cn cs L a ccd cl)) Q E s := by
  refine kla_eval hdef ?_
  rcases hT with rfl | ⟨c', oc, vs, t, rfl, h2, h3, h4⟩
  · refine kla_nest F N Tp C hcd (.head hP) trivial rfl hcl fun f c' oc vs t ctv h' tk F' N' d1 d2 l1 l2 => ?_
    have hPc : P < c' := l1 _ (.head _)
    refine h f c' oc vs t ctv _ [(c', oc)] h' tk F' (News.sub N' fun q hq => ?_) (fun x hx q hq => ?_) (Nat.lt_trans hPc l2) (fun q hq => ?_) (.inr ⟨c', oc, vs, t, rfl, .head _, d1, d2⟩) (.head _) d1 d2
    · rcases List.mem_cons.mp hq with rfl | hq
      · exact .head _
      · rcases List.mem_cons.mp hq with rfl | hq
        · exact .tail _ (.tail _ (.head _))
        · rcases List.mem_cons.mp hq with rfl | hq
          · exact .tail _ (.head _)
          · exact .tail _ (.tail _ (.tail _ hq))
    · rw [List.mem_singleton.mp hx]; exact l1 q hq
    · rcases List.mem_cons.mp hq with rfl | hq
      · exact l2
      · exact Nat.lt_trans (l1 q (.tail _ hq)) l2
  · refine kla_hit F N Tp C hcd (.head _) (by simp [TriplesOk, rawInt]) (c' := c') (by simp [codeAmong, rawInt]) hcl fun f ctv h' tk F' N' l1 => ?_
    exact h f c' oc vs t ctv _ [] h' tk F' N' (fun _ hx => nomatch hx) (l1 _ (.head _)) (fun q hq => l1 q (.tail _ hq)) (.inr ⟨c', oc, vs, t, rfl, h2, h3, h4⟩) h2 h3 h4
end
abbrev rangeO (a b c : Int) (t u v : Tok) : Obj := { cls := .type "range", dict := none, data := .fields #[.int a t, .int b u, .int c v], slots := #[] }
section
variable {prog : Program} {w : World} {A : Around} {E : Value → Shared → Prop} {s : Shared} {env : Env} {h₀ : Heap} {L : Addr} {m : Str → Option Value} {news : Led}
theorem iter_range {r : Addr} {a b c : Int} {t u v : Tok} {Q : Value → Shared → Prop} (F : Fr h₀ L s.heap m) (N : News h₀ L s.heap news) (hr : IsRange s.heap r a b c t u v) (hsmall : Builtin.Range.small a b c = true)
    (h : ∀ I h', Fr h₀ L h' m → News h₀ L h' ((I, { cls := .type "range_iterator", data := .fields #[rawInt a, rawInt (Builtin.Range.rangeSize a b c), rawInt c] }) :: news) → (∀ p ∈ news, p.1 < I) → Q (.ref I) { s with heap := h' }) : wpAny (model prog w) A (call (.builtin "iter") [.ref r]) Q E s :=
  iter_any (wpAny_pyIter_range hr hsmall (h _ _ (F.push _) (News.push F N _ rfl) fun q hq => Heap.lt_size (N q hq).1))
theorem range_led {a b : Int} {t u : Tok} {Q : Value → Shared → Prop} (F : Fr h₀ L s.heap m) (N : News h₀ L s.heap news)
    (h : ∀ r h' tk t₁ u₁ v₁, Fr h₀ L h' m → News h₀ L h' ((r, rangeO a b 1 t₁ u₁ v₁) :: news) → (∀ p ∈ news, p.1 < r) → Q (.ref r) { s with heap := h', toks := tk }) :
    wpAny (model prog w) A (call (.type "range") [.int a t, .int b u]) Q E s :=
  call_range_2 (h _ _ _ _ _ _ (F.push _) (News.push F N _ rfl) fun q hq => Heap.lt_size (N q hq).1)
theorem loop_rangeIt {σ : Type} {x : Str} {body : List Stmt} {Q : Flow → Shared → Prop} {I : Addr} {a b c : Int} {n : Nat} {m₀ : Str → Option Value} (ps : σ → List (Str × Value)) (stored : List Str) (Inv : Nat → σ → Led → Prop) (c₀ : σ)
    (hh : A.handled = none) (hsz : Builtin.Range.rangeSize a b c = (n : Int)) (F : Fr h₀ env.locals s.heap m₀) (N : News h₀ env.locals s.heap ((I, { cls := .type "range_iterator", data := .fields #[rawInt a, rawInt (Builtin.Range.rangeSize a b c), rawInt c] }) :: news)) (hnI : ∀ p ∈ news, p.1 ≠ I) (hk : ∀ p ∈ ps c₀, m₀ p.1 = some p.2) (h0 : Inv 0 c₀ news)
    (turn : ∀ i st (tc : Tok) nx (u : Str → Option Value) h tk oI, i < n → Inv i st nx → (∀ p ∈ nx, p.1 ≠ I) → Fr h₀ env.locals h (fun y => if y = x then some (.int (a + i * c) tc) else kstB (fun z => if stored.contains z then u z else m₀ z) (ps st) y) → News h₀ env.locals h ((I, oI) :: nx) →
      wpAny (model prog w) A (execs body env) (ITurn h₀ env.locals I oI { s with heap := h, toks := tk } x ps stored m₀ (Inv (i + 1)) Q) E { s with heap := h, toks := tk })
    (done : ∀ st nx (u : Str → Option Value) h tk, Inv n st nx → (∀ p ∈ nx, p.1 ≠ I) → Fr h₀ env.locals h (fun y => if y = x then u y else kstB (fun z => if stored.contains z then u z else m₀ z) (ps st) y) → News h₀ env.locals h nx → Q .next { s with heap := h, toks := tk }) :
    wpAny (model prog w) A (pyIter (.ref I)) (fun it s₂ => LoopAtV prog w A h₀ env x body Q E it s₂) E s := by
  have hit : IsRangeIter s.heap I (a + ((0 : Nat) : Int) * c) ((n : Int) - ((0 : Nat) : Int)) c := by
    have := (N _ (.head _)).1
    rw [hsz] at this
    rw [show a + ((0 : Nat) : Int) * c = a by simp, show (n : Int) - ((0 : Nat) : Int) = n by simp]
    exact this
  refine wpAny_pyIter_rangeiter hit ?_
  refine iloop ps stored Inv c₀ (Walks.range (prog := prog) (w := w) hh I a c n) ?_ (fun a ha => .inl (List.mem_singleton.mp ha)) hit F N hnI hk h0 (List.mem_singleton.mpr rfl) (fun i h st => ⟨_, st⟩) ?_ done
  · intro hm; exact (N _ (.head _)).2.1 (List.mem_singleton.mp hm).symm
  · rintro i st v nx u h tk oI hi ⟨tc, rfl⟩ hInv ha F' N'
    exact turn i st tc nx u h tk oI hi hInv ha F' N'
end
end Mine

-- R2
namespace Mine
set_option maxRecDepth 100000 in
set_option maxHeartbeats 8000000 in
theorem reduce_bytes {w : World} {p : Program} {loose : List Str} {mean : ExcName → Option Value} {mg mb : Str → Option Value} (news : Led) (fa : Addr) (b : Array UInt8) (tb : Tok) (v0 : Value) (d u : Nat) (Inv : Nat → Value → Led → Prop) (h0 : Inv 0 v0 news)
  (hv : Told v0 news) {oc : Value} {od : Option Addr} {fd : FuncData} {sl : Array (Option Value)} (hfun : ∀ i v nx, Inv i v nx → (fa, (⟨oc, od, .func fd, sl⟩ : Obj)) ∈ nx)
  (hf : ∀ i v ch tc nx I oI, b[i]? = some ch → Inv i v nx → (∀ p ∈ nx, p.1 ≠ I) → FnSpec Challenge.rw_nq0005_02.row.prog w (hd.heap_39 w.params) p loose mean mg mb (.ref fa) [v, .int (ch.toNat : Int) tc] d u ((I, oI) :: nx) (fun r n => ∃ nx', n = (I, oI) :: nx' ∧ (∀ p ∈ nx', p.1 ≠ I) ∧ Inv (i + 1) r nx')) :
  FnSpec Challenge.rw_nq0005_02.row.prog w (hd.heap_39 w.params) p loose mean mg mb (.ref 30) [.ref fa, .bytes b tb, v0] (d + 1) (u + 8) news (fun r n => Inv b.size r n) := by
  k_fill
  intro dp un gd cn cs a ccd cl outer A₀ base h₀ L m s Q E B F X N T hk hd' hu hret
  refine wpAny_call ?_
  refine' code_def ?k1 ?k2 ?k3 ?k4 ?k5 ?kA ?kF ?kK ?k6 ?k7 ?k8 ?k9 ?kB ?_ ?c2 ?c3 ?c4 ?c5
  case kA => exact rfl
  case kF => exact rfl
  case kK => assumption
  case k1 => k_asm
  case k2 => k_asm
  case k3 => k_asm
  case k4 => k_asm
  case k5 => k_asm
  case k6 => k_is
  case k7 => k_is
  case k8 => ktr_room
  case k9 => exact binds_K (by k_in) rfl (by k_is) rfl rfl rfl
  case c5 => decide
  case kB => exact locs rfl
  case c2 => exact rfl
  case c3 => exact rfl
  case c4 => exact rfl
  k_whole
  intro g' L' h' FG' F' N' B' X' T'
  try dsimp only
  try k_lift B'
  try k_fold
  k_with_none
  k_with "call builtin:iter" => (k_here; refine iter_bytes (by k_asm) (by k_asm) ?_; intro I' h' F' N' l1; try k_lt l1)
  k_with "compareOp Is" => (k_here; refine is_missing (Told.more hv) (by k_asm) (by k_asm) (X' 22 _ rfl) (by decide) ?_)
  k_with "exec For" => (k_here; (rename Fr _ _ _ _ => lF'); (with_unfolding_all refine' For_invVF lF' ?k1 ?k2 ?_; (case k1 => exact rfl); (case k2 => exact rfl); k_whole))
  k_with "pyIter ref" => (
    k_here
    (rename Fr _ _ _ _ => lF'); (rename News _ _ _ _ => lN')
    with_unfolding_all refine loop_bytes (fun v => [(Str.ofString "value", v)]) [] Inv v0 rfl lF' lN' ?hnI ?hk h0 ?turn ?done
    case hnI => exact fun p hp => Nat.ne_of_lt (by first | exact l1 p hp | exact (by assumption : ∀ p ∈ news, p.1 < _) p hp)
    case hk => kst_all
    case' turn =>
      intro i v ch tc nx u' h' tk' oI hch hInv hnx F' N'
      have hfa : (fa, (⟨oc, od, .func fd, sl⟩ : Obj)) ∈ (I', oI) :: nx := .tail _ (hfun _ _ _ hInv)
      clear lF' lN'
    case' done =>
      intro v nx u' h' tk' hInv hnx F' N'
      clear lF' lN')
  k_with "callWith ref" => (k_here; refine callWith_F (FnAt.of (by k_asm) (by assumption)) ?_)
  k_with "And" => ((with_reducible show FnAt _ _ ∧ _); refine ⟨FnAt.of (by k_asm) (by assumption), ?_⟩; try dsimp only [List.nil_append, List.cons_append])
  k_with "call ref" => (
    k_here
    refine' hf _ _ _ _ _ _ _ (by assumption) (by assumption) (by assumption) _ _ _ _ _ _ _ _ _ _ _ _ _ _ _ _ _ ?k1 ?k2 ?k3 ?k4 ?k5 ?kK ?kd ?ku ?kR
    case k1 => k_asm
    case k2 => k_asm
    case k3 => k_asm
    case k4 => k_asm
    case k5 => k_asm
    case kK => first | exact rfl | assumption
    case kd => ktr_room
    case ku => ktr_units
    intro r' n' h' tk' F' N' hR'
    obtain ⟨nx', rfl, hnx', hInv'⟩ := hR')
  k_steps
  · exact hret _ _ _ _ (by k_asm) (by k_asm) (by assumption)
  · exact iturn_next _ _ (by assumption) (by assumption) (by assumption) (by kst_all) (by intro z h1 h2 h3; (simp only [List.forall_mem_cons, List.not_mem_nil, false_implies, implies_true, and_true, ne_eq] at h2); simp [kstB, h1, h2]) (by assumption)
end Mine

-- R2r
namespace Mine
set_option maxRecDepth 100000 in
set_option maxHeartbeats 8000000 in
theorem reduce_range {w : World} {p : Program} {loose : List Str} {mean : ExcName → Option Value} {mg mb : Str → Option Value} (news : Led) (fa : Addr) (r : Addr) (b : Int) (n : Nat) (t1 t2 t3 : Tok) (hrng : (r, rangeO 1 b 1 t1 t2 t3) ∈ news) (hsm : Builtin.Range.small 1 b 1 = true) (hsz : Builtin.Range.rangeSize 1 b 1 = (n : Int)) (v0 : Value) (d u : Nat) (Inv : Nat → Value → Led → Prop) (h0 : Inv 0 v0 news)
  (hv : Told v0 news) {oc : Value} {od : Option Addr} {fd : FuncData} {sl : Array (Option Value)} (hfun : ∀ i v nx, Inv i v nx → (fa, (⟨oc, od, .func fd, sl⟩ : Obj)) ∈ nx)
  (hf : ∀ i v tc nx I oI, i < n → Inv i v nx → (∀ p ∈ nx, p.1 ≠ I) → FnSpec Challenge.rw_nq0005_02.row.prog w (hd.heap_39 w.params) p loose mean mg mb (.ref fa) [v, .int (1 + (i : Int) * 1) tc] d u ((I, oI) :: nx) (fun r n => ∃ nx', n = (I, oI) :: nx' ∧ (∀ p ∈ nx', p.1 ≠ I) ∧ Inv (i + 1) r nx')) :
  FnSpec Challenge.rw_nq0005_02.row.prog w (hd.heap_39 w.params) p loose mean mg mb (.ref 30) [.ref fa, .ref r, v0] (d + 1) (u + 8) news (fun r n' => Inv n r n') := by
  k_fill
  intro dp un gd cn cs a ccd cl outer A₀ base h₀ L m s Q E B F X N T hk hd' hu hret
  refine wpAny_call ?_
  refine' code_def ?k1 ?k2 ?k3 ?k4 ?k5 ?kA ?kF ?kK ?k6 ?k7 ?k8 ?k9 ?kB ?_ ?c2 ?c3 ?c4 ?c5
  case kA => exact rfl
  case kF => exact rfl
  case kK => assumption
  case k1 => k_asm
  case k2 => k_asm
  case k3 => k_asm
  case k4 => k_asm
  case k5 => k_asm
  case k6 => k_is
  case k7 => k_is
  case k8 => ktr_room
  case k9 => exact binds_K (by k_in) rfl (by k_is) rfl rfl rfl
  case c5 => decide
  case kB => exact locs rfl
  case c2 => exact rfl
  case c3 => exact rfl
  case c4 => exact rfl
  k_whole
  intro g' L' h' FG' F' N' B' X' T'
  try dsimp only
  try k_lift B'
  try k_fold
  k_with_none
  k_with "call builtin:iter" => (k_here; refine iter_range (by k_asm) (by k_asm) ((by k_asm : News _ _ _ _) _ hrng).1 hsm ?_; intro I' h' F' N' l1; try k_lt l1)
  k_with "compareOp Is" => (k_here; refine is_missing (Told.more hv) (by k_asm) (by k_asm) (X' 22 _ rfl) (by decide) ?_)
  k_with "exec For" => (k_here; (rename Fr _ _ _ _ => lF'); (with_unfolding_all refine' For_invVF lF' ?k1 ?k2 ?_; (case k1 => exact rfl); (case k2 => exact rfl); k_whole))
  k_with "pyIter ref" => (
    k_here
    (rename Fr _ _ _ _ => lF'); (rename News _ _ _ _ => lN')
    with_unfolding_all refine loop_rangeIt (n := n) (fun v => [(Str.ofString "value", v)]) [] Inv v0 rfl hsz lF' lN' ?hnI ?hk h0 ?turn ?done
    case hnI => exact fun p hp => Nat.ne_of_lt (by first | exact l1 p hp | exact (by assumption : ∀ p ∈ news, p.1 < _) p hp)
    case hk => kst_all
    case' turn =>
      intro i v tc nx u' h' tk' oI hi hInv hnx F' N'
      have hfa : (fa, (⟨oc, od, .func fd, sl⟩ : Obj)) ∈ (I', oI) :: nx := .tail _ (hfun _ _ _ hInv)
      clear lF' lN'
    case' done =>
      intro v nx u' h' tk' hInv hnx F' N'
      clear lF' lN')
  k_with "callWith ref" => (k_here; refine callWith_F (FnAt.of (by k_asm) (by assumption)) ?_)
  k_with "And" => ((with_reducible show FnAt _ _ ∧ _); refine ⟨FnAt.of (by k_asm) (by assumption), ?_⟩; try dsimp only [List.nil_append, List.cons_append])
  k_with "call ref" => (
    k_here
    refine' hf _ _ _ _ _ _ (by assumption) (by assumption) (by assumption) _ _ _ _ _ _ _ _ _ _ _ _ _ _ _ _ _ ?k1 ?k2 ?k3 ?k4 ?k5 ?kK ?kd ?ku ?kR
    case k1 => k_asm
    case k2 => k_asm
    case k3 => k_asm
    case k4 => k_asm
    case k5 => k_asm
    case kK => first | exact rfl | assumption
    case kd => ktr_room
    case ku => ktr_units
    intro r' n' h' tk' F' N' hR'
    obtain ⟨nx', rfl, hnx', hInv'⟩ := hR')
  k_steps
  · exact hret _ _ _ _ (by k_asm) (by k_asm) (by assumption)
  · exact iturn_next _ _ (by assumption) (by assumption) (by assumption) (by kst_all) (by intro z h1 h2 h3; (simp only [List.forall_mem_cons, List.not_mem_nil, false_implies, implies_true, and_true, ne_eq] at h2); simp [kstB, h1, h2]) (by assumption)
end Mine

-- D2
namespace Mine
theorem fac_int {w : World} {p : Program} {loose : List Str} {mean : ExcName → Option Value} {mg mb : Str → Option Value} (news : Led) (x : Int) (t1 : Tok) (h0 : 0 ≤ x) (h1 : x ≤ 100) :
  FnSpec Challenge.rw_nq0005_02.row.prog w (hd.heap_39 w.params) p loose mean mg mb (.ref 65) [.int x t1] 1 8 news (fun r n => (∃ t, r = .int (fac x.toNat : Nat) t) ∧ n = news) := by
  have := fac_spec (w := w) (p := p) (loose := loose) (mean := mean) (mg := mg) (mb := mb) news x.toNat t1 (by omega)
  rwa [Int.toNat_of_nonneg h0] at this
theorem ones_int {w : World} {p : Program} {loose : List Str} {mean : ExcName → Option Value} {mg mb : Str → Option Value} (news : Led) (x : Int) (t1 : Tok) (h0 : 0 ≤ x) :
  FnSpec Challenge.rw_nq0005_02.row.prog w (hd.heap_39 w.params) p loose mean mg mb (.ref 58) [.int x t1] 1 8 news (fun r n => (∃ t, r = .int (ones x.toNat : Nat) t) ∧ n = news) := by
  have := ones_spec (w := w) (p := p) (loose := loose) (mean := mean) (mg := mg) (mb := mb) news x.toNat t1
  rwa [Int.toNat_of_nonneg h0] at this
section
variable {prog : Program} {w : World} {A : Around} {E : Value → Shared → Prop} {s : Shared}
theorem fd_pw {a k : Int} {t u : Tok} {Q : Value → Shared → Prop} (hk : k ≤ 6) (h : Q (.int (a.fdiv (16 ^ k.toNat)) s.toks) { s with toks := s.toks + 1 }) : wpAny (model prog w) A (binaryOp .FloorDiv (.int a t) (.int ((16 : Int) ^ k.toNat) u)) Q E s := by
  have key : ∀ j : Fin 7, ((16 : Int) ^ j.1) ≠ 0 ∧ ((16 : Int) ^ j.1).natAbs < 1073741824 := by decide +kernel
  have := key ⟨k.toNat, by omega⟩
  exact floordiv_int this.1 h (.inl (PyProof.noPylong_small this.2))
theorem fd_fac {a k : Int} {t u : Tok} {Q : Value → Shared → Prop} (hk : k ≤ 15) (h : Q (.int (a.fdiv (fac k.toNat : Nat)) s.toks) { s with toks := s.toks + 1 }) : wpAny (model prog w) A (binaryOp .FloorDiv (.int a t) (.int (fac k.toNat : Nat) u)) Q E s := by
  have key : ∀ j : Fin 16, ((fac j.1 : Nat) : Int) ≠ 0 ∧ ((fac j.1 : Nat) : Int).natAbs.log2 < 9000 := by decide +kernel
  have := key ⟨k.toNat, by omega⟩
  exact floordiv_int this.1 h (.inl (PyProof.noPylong_of_log2 this.2))
end
theorem sub_1_2 {news : Led} {q x y : Addr × Obj} : ∀ p ∈ q :: news, p ∈ q :: x :: y :: news := fun p hp => by
  rcases List.mem_cons.mp hp with rfl | hp
  · exact .head _
  · exact .tail _ (.tail _ (.tail _ hp))
def fig (n k : Nat) : Nat := n / 16 ^ k % 16
def dsum (n : Nat) : Nat := fig n 0 + fig n 1 + fig n 2 + fig n 3 + fig n 4
theorem figs_is (n : Nat) : List.map (fun k' : Int => ((n : Int).fdiv (16 ^ k'.toNat)).fmod 16) (PySem.W.rangeKs 0 (5 - 0 : Int).toNat) = [(fig n 0 : Int), (fig n 1 : Int), (fig n 2 : Int), (fig n 3 : Int), (fig n 4 : Int)] := by
  have e : PySem.W.rangeKs 0 (5 - 0 : Int).toNat = [0, 1, 2, 3, 4] := by decide +kernel
  have key : ∀ k : Nat, ((n : Int).fdiv (16 ^ k)).fmod 16 = (fig n k : Int) := fun k => by
    unfold fig
    rw [Int.fdiv_eq_ediv_of_nonneg _ (Int.le_of_lt (Int.pow_pos (by decide))), Int.fmod_eq_emod_of_nonneg _ (by decide)]
    push_cast; rfl
  rw [e]
  simp only [List.map_cons, List.map_nil]
  exact congr (congrArg _ (key 0)) (congr (congrArg _ (key 1)) (congr (congrArg _ (key 2)) (congr (congrArg _ (key 3)) (congr (congrArg _ (key 4)) rfl))))
theorem fig_lt (n k : Nat) : fig n k < 16 := by unfold fig; omega
theorem figsum_is (n : Nat) : (List.map (fun k' : Int => ((n : Int).fdiv (16 ^ k'.toNat)).fmod 16) (PySem.W.rangeKs 0 (5 - 0 : Int).toNat)).sum = (dsum n : Nat) := by
  rw [figs_is]; simp [dsum]; omega
theorem dsum_le (n : Nat) : dsum n ≤ 75 := by
  have := fig_lt n 0; have := fig_lt n 1; have := fig_lt n 2; have := fig_lt n 3; have := fig_lt n 4
  unfold dsum; omega
theorem fs0 (n : Nat) : 0 ≤ (List.map (fun k' : Int => ((n : Int).fdiv (16 ^ k'.toNat)).fmod 16) (PySem.W.rangeKs 0 (5 - 0 : Int).toNat)).sum := by rw [figsum_is]; omega
theorem fs1 (n : Nat) : (List.map (fun k' : Int => ((n : Int).fdiv (16 ^ k'.toNat)).fmod 16) (PySem.W.rangeKs 0 (5 - 0 : Int).toNat)).sum ≤ 100 := by rw [figsum_is]; have := dsum_le n; omega
theorem fm0 {n : Nat} {k : Int} (h : k ∈ List.map (fun k' : Int => ((n : Int).fdiv (16 ^ k'.toNat)).fmod 16) (PySem.W.rangeKs 0 (5 - 0 : Int).toNat)) : 0 ≤ k ∧ k ≤ 15 ∧ k ≤ 100 := by
  rw [figs_is] at h
  have := fig_lt n 0; have := fig_lt n 1; have := fig_lt n 2; have := fig_lt n 3; have := fig_lt n 4
  simp only [List.mem_cons, List.not_mem_nil, or_false] at h
  omega
def DInv (n : Nat) (pre : List Int) (orders : Int) : Prop := orders = pre.foldl (fun (o f : Int) => o.fdiv (fac f.toNat : Nat)) ((fac (dsum n) : Nat) : Int)
theorem dinv0 (n : Nat) : DInv n [] ((fac (List.map (fun k' : Int => ((n : Int).fdiv (16 ^ k'.toNat)).fmod 16) (PySem.W.rangeKs 0 (5 - 0 : Int).toNat)).sum.toNat : Nat) : Int) := by
  rw [figsum_is]; rfl
theorem dinv1 {n : Nat} {pre : List Int} {o k : Int} (h : DInv n pre o) : DInv n (pre ++ [k]) (o.fdiv (fac k.toNat : Nat)) := by
  unfold DInv at *
  rw [List.foldl_append, ← h]; rfl
/-- what _law_due answers for the orders -/
def dord (n : Nat) : Nat := fac (dsum n) / fac (fig n 0) / fac (fig n 1) / fac (fig n 2) / fac (fig n 3) / fac (fig n 4)
theorem dinv_end {n : Nat} {o : Int} (h : DInv n (List.map (fun k' : Int => ((n : Int).fdiv (16 ^ k'.toNat)).fmod 16) (PySem.W.rangeKs 0 (5 - 0 : Int).toNat)) o) : o = (dord n : Nat) := by
  unfold DInv at h
  rw [h, figs_is]
  simp only [List.foldl_cons, List.foldl_nil, Int.toNat_natCast]
  unfold dord
  have e : ∀ a b : Nat, (a : Int).fdiv (b : Int) = ((a / b : Nat) : Int) := fun a b => by rw [Int.fdiv_eq_ediv_of_nonneg _ (by omega)]; rfl
  simp only [e]
local macro_rules | `(tactic| walk_at "use fac") => `(tactic| (k_here; with_unfolding_all refine' FnSpec.use (fac_int _ _ _ ?h0 ?h1) ?k1 ?k2 ?k3 ?k4 ?k5 ?kK ?kd ?ku ?_; (case k1 => k_asm); (case k2 => k_asm); (case k3 => k_asm); (case k4 => k_asm); (case k5 => k_asm); (case kK => first | exact rfl | assumption); (case kd => ktr_room); (case ku => ktr_units)))
local macro_rules | `(tactic| walk_at "use ones") => `(tactic| (k_here; with_unfolding_all refine' FnSpec.use (ones_int _ _ _ ?h0) ?k1 ?k2 ?k3 ?k4 ?k5 ?kK ?kd ?ku ?_; (case k1 => k_asm); (case k2 => k_asm); (case k3 => k_asm); (case k4 => k_asm); (case k5 => k_asm); (case kK => first | exact rfl | assumption); (case kd => ktr_room); (case ku => ktr_units)))
set_option maxRecDepth 100000 in
set_option maxHeartbeats 8000000 in
theorem due_spec {w : World} {p : Program} {loose : List Str} {mean : ExcName → Option Value} {mg mb : Str → Option Value} (news : Led) (n : Nat) (tn : Tok) (hn : n < 1048576) :
  FnSpec Challenge.rw_nq0005_02.row.prog w (hd.heap_39 w.params) p loose mean mg mb (.ref 70) [.int (n : Int) tn] 2 16 news (fun r n' => ∃ T a t1 b t2 c t3, r = .ref T ∧ n' = (T, tupO [.int a t1, .int b t2, .int c t3]) :: news ∧ a = (dsum n : Nat) ∧ b = (dord n : Nat) ∧ c = ((ones n : Nat) : Int) - (ones (dsum n) : Nat)) := by
  k_fill
  intro dp un gd cn cs a ccd cl outer A₀ base h₀ L m s Q E B F X N T hk hd' hu hret
  refine wpAny_call ?_
  k_dflt ((refine' code_defC ?k1 ?k2 ?k3 ?k4 ?k5 ?kA ?kF ?kK ?k6 ?k7 ?k8 ?k9 ?kB ?kD ?_ ?c2 ?c3 ?c4; (case kA => exact rfl); (case kF => exact rfl); (case kK => assumption); (case k1 => k_asm); (case k2 => k_asm); (case k3 => k_asm); (case k4 => k_asm); (case k5 => k_asm); (case k6 => k_is); (case k7 => k_is); (case k8 => ktr_room); (case k9 => exact BindsTo.of_eq rfl); (case kB => exact rfl); (case kD => decide +kernel); (case c2 => exact rfl); (case c3 => exact rfl); (case c4 => exact rfl); k_whole; intro g' L' h' tk' cells' FG' F' N' Y' B' X' T' l1; have l0' := Mine.Low.of l1; (try k_lt l1); k_cells Y'; (try simp only [List.cons_append, List.nil_append] at N'); (try dsimp only); (try k_lift B'); (try k_fold)))
  k_with_none
  k_with "binaryOp FloorDiv int int" => (k_here; refine fd_pw (by omega) ?_)
  k_with "binaryOp FloorDiv int int" => (k_here; refine fd_fac ((fm0 (by assumption)).2.1) ?_)
  k_with "call ref" => ((with_reducible show wpAny _ _ (call (Value.ref 65) _) _ _ _); (
      walk_at "use fac"
      case h0 => first | exact fs0 _ | exact (fm0 (by assumption)).1
      case h1 => first | exact fs1 _ | exact (fm0 (by assumption)).2.2
      intro r' n' h' tk' F' N' hR'
      obtain ⟨⟨t', rfl⟩, rfl⟩ := hR'))
  k_with "call ref" => ((with_reducible show wpAny _ _ (call (Value.ref 58) _) _ _ _); (
      walk_at "use ones"
      case h0 => first | exact fs0 _ | exact Int.natCast_nonneg _
      intro r' n' h' tk' F' N' hR'
      obtain ⟨⟨t', rfl⟩, rfl⟩ := hR'))
  k_with "state" => exact dinv0 _
  k_with "state" => exact dinv1 (by assumption)
  k_with "pyIter ref" => k_state (fun pre orders => DInv n pre orders) "orders"
  k_steps
  have e := dinv_end (by assumption)
  (rename News h₀ L _ _ => kN)
  exact hret _ _ _ _ (by k_asm) (News.sub kN sub_1_2) ⟨_, _, _, _, _, _, _, rfl, rfl, figsum_is n, e, by rw [figsum_is]; rfl⟩
end Mine

-- M2
namespace Mine
abbrev lp39 : Pos := { line := 34, col := 20, endLine := 34, endCol := 60 }
abbrev lq39 : Str := Str.ofString "_law_more" ++ ".<locals>." ++ "<lambda>"
def Lam39 (w : World) (p : Program) (loose : List Str) (mean : ExcName → Option Value) (mg mb : Str → Option Value) (f : Addr) (lam : Obj) (c' : Addr) (oc : Obj) (cell : Addr) (oc2 : Obj) (T : Nat) : Prop :=
  ∀ (nx : Led) (v k : Nat) (tv tk : Tok), (f, lam) ∈ nx → (c', oc) ∈ nx → (cell, oc2) ∈ nx → 0 < k → k ≤ 15 →
    FnSpec Challenge.rw_nq0005_02.row.prog w (hd.heap_39 w.params) p loose mean mg mb (.ref f) [.int (v : Int) tv, .int (k : Int) tk] 1 8 nx (fun r n => (∃ t, r = .int ((v * (T + k) / k : Nat) : Int) t) ∧ n = nx)
theorem mem_more {extra rest rest₀ : Led} {x : Addr × Obj} (hs : ∀ p ∈ rest₀, p ∈ rest) (h : x ∈ extra ++ rest₀) : x ∈ extra ++ rest := by
  rcases List.mem_append.mp h with h | h
  · exact List.mem_append_left _ h
  · exact List.mem_append_right _ (hs _ h)
theorem have39 {t : Tok} {w : World} {p : Program} {loose : List Str} {mean : ExcName → Option Value} {mg mb : Str → Option Value} {h₀ h : Heap} {L f : Addr} {lam : Obj} {T' : Obj} {extra rest : Led} {c' : Addr} {oc : Obj} {cell : Addr} {oc2 : Obj} {T : Nat} {C : Prop}
    (_X : (hd.heap_39 w.params).In h₀) (_T : Top p loose mean mg mb h₀) (_N : News h₀ L h ((f, lam) :: (39, T') :: (extra ++ (cell, oc2) :: rest))) (_h : (c', oc) ∈ extra ++ (cell, oc2) :: rest) (_h2 : oc2.data = .cell (some (.int (T : Int) t)))
    (h1 : Lam39 w p loose mean mg mb f lam c' oc cell oc2 T) (h2 : (c', oc) ∈ extra ++ (cell, oc2) :: rest → Lam39 w p loose mean mg mb f lam c' oc cell oc2 T → C) : C := h2 _h h1
theorem rng_ok (f : Nat) (hf : f ≤ 15) : Builtin.Range.small 1 ((f : Int) + 1) 1 = true ∧ Builtin.Range.rangeSize 1 ((f : Int) + 1) 1 = (f : Int) := by
  have : ∀ f : Fin 16, Builtin.Range.small 1 (((f.1 : Nat) : Int) + 1) 1 = true ∧ Builtin.Range.rangeSize 1 (((f.1 : Nat) : Int) + 1) 1 = ((f.1 : Nat) : Int) := by decide +kernel
  exact this ⟨f, by omega⟩
theorem red39 {w : World} {p : Program} {loose : List Str} {mean : ExcName → Option Value} {mg mb : Str → Option Value} {fa : Addr} {fd : FuncData} {c' : Addr} {oc : Obj} {cell : Addr} {oc2 : Obj} {T O f : Nat} {r : Addr} {t1 t2 t3 : Tok} (hlam : Lam39 w p loose mean mg mb fa ⟨.type "function", none, .func fd, #[]⟩ c' oc cell oc2 T) (nw : Led) (t : Tok) (hf : f ≤ 15)
    (hr : (r, rangeO 1 ((f : Int) + 1) 1 t1 t2 t3) ∈ nw) (h1 : (fa, (⟨.type "function", none, .func fd, #[]⟩ : Obj)) ∈ nw) (h2 : (c', oc) ∈ nw) (h3 : (cell, oc2) ∈ nw) :
    FnSpec Challenge.rw_nq0005_02.row.prog w (hd.heap_39 w.params) p loose mean mg mb (.ref 30) [.ref fa, .ref r, .int (O : Int) t] 2 16 nw (fun v n => (∃ t, v = .int ((O * ch T f : Nat) : Int) t) ∧ n = nw) := by
  refine reduce_range nw fa r _ f t1 t2 t3 hr (rng_ok f hf).1 (rng_ok f hf).2 (.int (O : Int) t) 1 8 (fun i v nx => (∃ t, v = .int ((O * ch T i : Nat) : Int) t) ∧ nx = nw) ⟨⟨t, by simp [ch]⟩, rfl⟩ (.inl ⟨_, _, rfl⟩) (fun i v nx h => h.2 ▸ h1) ?_
  rintro i v tc nx I oI hi ⟨⟨t', rfl⟩, rfl⟩ hI
  have := hlam ((I, oI) :: nx) (O * ch T i) (i + 1) t' tc (.tail _ h1) (.tail _ h2) (.tail _ h3) (by omega) (by omega)
  rw [show 1 + (i : Int) * 1 = ((i + 1 : Nat) : Int) by omega]
  refine this.mono (fun _ h => h) (Nat.le_refl _) (Nat.le_refl _) fun r n hR => ⟨n, fun _ h => h, ?_⟩
  obtain ⟨⟨t2, rfl⟩, rfl⟩ := hR
  refine ⟨nx, rfl, hI, ⟨t2, ?_⟩, rfl⟩
  rw [show O * ch T i * (T + (i + 1)) / (i + 1) = O * ch T (i + 1) from ?_]
  rw [Nat.mul_assoc, show T + (i + 1) = T + i + 1 by omega, ch_step, ← Nat.mul_assoc, Nat.mul_div_cancel _ (by omega)]
theorem lam_val (v T k : Nat) : ((v : Int) * ((T : Int) + (k : Int))).fdiv (k : Int) = ((v * (T + k) / k : Nat) : Int) := by
  rw [Int.fdiv_eq_ediv_of_nonneg _ (by omega)]; push_cast; rfl
theorem swap12 {news : Led} {q x : Addr × Obj} : ∀ p ∈ x :: q :: news, p ∈ q :: x :: news := fun p hp => by
  rcases List.mem_cons.mp hp with rfl | hp
  · exact .tail _ (.head _)
  · rcases List.mem_cons.mp hp with rfl | hp
    · exact .head _
    · exact .tail _ (.tail _ hp)
local macro_rules | `(tactic| walk_at "assign Tuple") => `(tactic| (k_here; (with_reducible show wpAny _ _ (assign (Expr.Tuple _ _ _) _ (Value.ref _)) _ _ _); (k_dflt (refine' unpackN_ ?k1 ?k2 ?k3 ?k4 ?k5 ?k6 ?_; (case k1 => k_asm); (case k2 => k_asm); (case k3 => refine News.isTup (by k_asm) (by (repeat (first | assumption | refine List.mem_cons_of_mem _ ?_)))); (case k4 => exact rfl); (case k5 => exact rfl); (case k6 => exact rfl); k_whole); intro h' F' N')))
local macro_rules | `(tactic| k_all) => `(tactic| exact fun p hp => Nat.ne_of_lt (Nat.lt_succ_of_lt ((by assumption : Low _ _) p hp)))
local macro_rules | `(tactic| walk_at "enter lam") => `(tactic| (with_unfolding_all refine' kla_code ?k1 ?k2 ?k3 ?k4 ?k5 ?kA ?kF ?kK ?k6 ?k7 ?k8 ?k9 ?kB ?_ ?c2 ?c3 ?c4 ?c5; (case kA => exact rfl); (case kF => exact rfl); (case kK => assumption); (case k1 => k_asm); (case k2 => k_asm); (case k3 => k_asm); (case k4 => k_asm); (case k5 => k_asm); (case k6 => assumption); (case k7 => exact codeRec_news (by k_asm) (by assumption) (by assumption) (by assumption)); (case k8 => ktr_room); (case k9 => exact rfl); (case c5 => decide); (case kB => exact locs rfl); (case c2 => exact rfl); (case c3 => exact rfl); (case c4 => exact rfl); k_whole; intro g' L' h' FG' F' N' B' X' T'; (try dsimp only); (try k_lift B'); (try k_fold)))
local macro_rules | `(tactic| walk_at "use carries") => `(tactic| (k_here; with_unfolding_all refine' FnSpec.use (carries_spec _ _ _ _ _) ?k1 ?k2 ?k3 ?k4 ?k5 ?kK ?kd ?ku ?_; (case k1 => k_asm); (case k2 => k_asm); (case k3 => k_asm); (case k4 => k_asm); (case k5 => k_asm); (case kK => first | exact rfl | assumption); (case kd => ktr_room); (case ku => ktr_units)))
local macro_rules | `(tactic| walk_at "use red39") => `(tactic| (k_here; with_unfolding_all refine' FnSpec.use (red39 ?hl _ _ ?hf ?h0 ?h1 ?h2 ?h3) ?k1 ?k2 ?k3 ?k4 ?k5 ?kK ?kd ?ku ?_; (case k1 => k_asm); (case k2 => k_asm); (case k3 => k_asm); (case k4 => k_asm); (case k5 => k_asm); (case kK => first | exact rfl | assumption); (case kd => ktr_room); (case ku => ktr_units); (case hl => assumption); (case hf => assumption); (case h0 => (repeat (first | assumption | exact List.mem_cons_self | exact List.mem_append_right _ List.mem_cons_self | refine List.mem_cons_of_mem _ ?_))); (case h1 => (repeat (first | assumption | exact List.mem_cons_self | exact List.mem_append_right _ List.mem_cons_self | refine List.mem_cons_of_mem _ ?_))); (case h2 => (repeat (first | assumption | exact List.mem_cons_self | exact List.mem_append_right _ List.mem_cons_self | refine List.mem_cons_of_mem _ ?_))); (case h3 => (repeat (first | assumption | exact List.mem_cons_self | exact List.mem_append_right _ List.mem_cons_self | refine List.mem_cons_of_mem _ ?_)))))
local macro_rules | `(tactic| walk_at "eval Name") => `(tactic| (k_here; k_dflt (refine' nameX_F ?N ?c ?m ?d ?_ ?a ?b; (case a => rfl); (case b => rfl); (case N => k_asm); (case c => rfl); (case m => assumption); (case d => assumption); k_whole)))
local macro_rules | `(tactic| walk_at "eval Name") => `(tactic| (k_here; k_dflt (refine' nameX_C ?N ?c ?m ?d ?_ ?a ?b; (case a => rfl); (case b => rfl); (case N => k_asm); (case c => rfl); (case m => (repeat (first | assumption | exact List.mem_cons_self | exact List.mem_append_right _ List.mem_cons_self | refine List.mem_cons_of_mem _ ?_))); (case d => assumption); k_whole)))
/-- what _law_more leaves: a fresh triple, the table 39 as it may be now -/
def More (Tb : Obj) (rest rest₀ : Led) (a b c : Nat) (r : Value) (n : Led) : Prop := ∃ D T' extra t1 t2 t3, r = .ref D ∧ n = (D, tupO [.int (a : Int) t1, .int (b : Int) t2, .int (c : Int) t3]) :: (39, T') :: (extra ++ rest) ∧ LamTab lp39 lq39 T' (extra ++ rest₀) ∧ (∀ x ∈ extra, ∀ q ∈ (39, Tb) :: rest, q.1 < x.1) ∧ (∀ q ∈ (39, Tb) :: rest, q.1 < D)
theorem more_end {h₀ h' : Heap} {L D r' f' L' : Addr} {m : Str → Option Value} {Tb T' o' rr lam : Obj} {rest rest₀ extra : Led} {s : Shared} {Q : Value → Shared → Prop} {Tn O C f : Nat} {x1 x2 x3 : Int} {t1 t2 t3 : Tok} {tk' : Nat}
    (hret : ∀ r news' h' tk', Fr h₀ L h' m → News h₀ L h' news' → More Tb rest rest₀ (Tn + f) (O * ch Tn f) (C + carr Tn f 0) r news' → Q r { s with heap := h', toks := tk' }) (F : Fr h₀ L h' m)
    (N : News h₀ L h' ((D, tupO [.int x1 t1, .int x2 t2, .int x3 t3]) :: (r', rr) :: (f', lam) :: (39, T') :: (extra ++ (L' + 1, o') :: rest)))
    (e1 : x1 = ((Tn + f : Nat) : Int)) (e2 : x2 = ((O * ch Tn f : Nat) : Int)) (e3 : x3 = ((C + carr Tn f 0 : Nat) : Int)) (hT : LamTab lp39 lq39 T' (extra ++ rest₀)) (l0 : Low L' ((39, Tb) :: rest))
    (hx : ∀ x ∈ extra, ∀ q ∈ (39, Tb) :: (L' + 1, o') :: rest, q.1 < x.1) (hD : r' < D ∧ f' < D ∧ 39 < D ∧ AllLt D (extra ++ (L' + 1, o') :: rest)) : Q (.ref D) { s with heap := h', toks := tk' } := by
  subst e1 e2 e3
  have e : extra ++ (L' + 1, o') :: rest = (extra ++ [(L' + 1, o')]) ++ rest := by simp
  refine hret _ _ h' tk' F (News.sub N ?_) ⟨D, T', extra ++ [(L' + 1, o')], t1, t2, t3, rfl, rfl, hT.mono ?_, ?_, ?_⟩
  · intro p hp
    rw [← e] at hp
    simp only [List.mem_cons] at hp ⊢
    rcases hp with h | h | h <;> simp [h]
  · intro p hp
    rcases List.mem_append.mp hp with h | h <;> simp [h]
  · intro x hx' q hq
    rcases List.mem_append.mp hx' with h | h
    · refine hx x h q ?_
      rcases List.mem_cons.mp hq with rfl | hq
      · exact .head _
      · exact .tail _ (.tail _ hq)
    · rw [List.mem_singleton.mp h]
      exact Nat.lt_succ_of_lt (l0 q hq)
  · intro q hq
    rcases List.mem_cons.mp hq with rfl | hq
    · exact hD.2.2.1
    · exact ktn_ltOf hD.2.2.2 q (List.mem_append_right _ (.tail _ hq))
set_option maxRecDepth 100000 in
set_option maxHeartbeats 8000000 in
theorem more_spec {w : World} {p : Program} {loose : List Str} {mean : ExcName → Option Value} {mg mb : Str → Option Value} (rest rest₀ : Led) (Tb : Obj) (hP : ∀ q ∈ rest, q.1 ≠ 39) (hs₀ : ∀ p ∈ rest₀, p ∈ rest) (hT : LamTab lp39 lq39 Tb rest₀) (fr : Addr) (Tn O C f : Nat) (t1 t2 t3 t4 : Tok) (hTn : Tn ≤ 75) (hf : f ≤ 15)
  (hfr : (fr, tupO [.int (Tn : Int) t1, .int (O : Int) t2, .int (C : Int) t3]) ∈ (39, Tb) :: rest) :
  FnSpec Challenge.rw_nq0005_02.row.prog w (hd.heap_39 w.params) p loose mean mg mb (.ref 44) [.ref fr, .int (f : Int) t4] 3 32 ((39, Tb) :: rest) (More Tb rest rest₀ (Tn + f) (O * ch Tn f) (C + carr Tn f 0)) := by
  k_fill
  intro dp un gd cn cs a ccd cl outer A₀ base h₀ L m s Q E B F X N T hk hd' hu hret
  refine wpAny_call ?_
  k_dflt ((refine' code_defC ?k1 ?k2 ?k3 ?k4 ?k5 ?kA ?kF ?kK ?k6 ?k7 ?k8 ?k9 ?kB ?kD ?_ ?c2 ?c3 ?c4; (case kA => exact rfl); (case kF => exact rfl); (case kK => assumption); (case k1 => k_asm); (case k2 => k_asm); (case k3 => k_asm); (case k4 => k_asm); (case k5 => k_asm); (case k6 => k_is); (case k7 => k_is); (case k8 => ktr_room); (case k9 => exact BindsTo.of_eq rfl); (case kB => exact rfl); (case kD => decide +kernel); (case c2 => exact rfl); (case c3 => exact rfl); (case c4 => exact rfl); k_whole; intro g' L' h' tk' cells' FG' F' N' Y' B' X' T' l1; have l0' := Mine.Low.of l1; (try k_lt l1); k_cells Y'; (try simp only [List.cons_append, List.nil_append] at N'); (try dsimp only); (try k_lift B'); (try k_fold)))
  (rename Low _ _ => l0)
  k_with_none
  k_with "eval Lambda" => (
    k_here; (with_reducible rename Fr _ _ _ _ => F'); (with_reducible rename News _ _ _ _ => N')
    with_unfolding_all refine' lam_any F' (News.sub N' swap12) ?T ?C ?cd ?hP ?hs ?hT ?hdef ?hcl ?_
    case T => k_asm
    case cd => exact rfl
    case C => exact ⟨_, _, _, _, _, _, _, _, _, (by assumption : Frag.In _ _) 43 _ rfl, rfl, rfl, rfl, rfl, rfl, rfl, rfl, rfl, by decide⟩
    case hP => exact List.forall_mem_cons.mpr ⟨Nat.ne_of_gt (Nat.lt_succ_of_lt (l0 _ List.mem_cons_self)), hP⟩
    case hT => exact hT
    case hs => exact fun _ h => List.mem_cons_of_mem _ (hs₀ _ h)
    case hdef => exact rfl
    case hcl => exact rfl
    intro f' c' oc' vs' t' ctv' T' extra' h' tk' F' N' hx' hf' hlt' hTb' hc' hd1' hd2'
    (rename Top _ _ _ _ _ _ => lT'); (rename Frag.In _ _ => lX')
    refine have39 lX' lT' N' (mem_more (fun q h => List.mem_cons_of_mem _ (hs₀ q h)) hc') (by assumption) ?lam ?rest
    case' lam =>
      unfold Lam39 FnSpec
      intro nx v k tv tk hm1 hm2 hm3 hk0 hk1
      clear F' N' hret B F X N T
      intro dp un gd cn cs a ccd cl outer A₀ base h₀ L m s Q E B F X N T hk hd' hu hret
      refine wpAny_call ?_
      walk_at "enter lam"
    case' rest =>
      intro hc2' hlam)
  k_with "call type:range" => (k_here; refine range_led (by k_asm) (by k_asm) ?_; intro r' h' tk' t₁' u₁' v₁' F' N' hr')
  k_with "call ref" => ((with_reducible show wpAny _ _ (call (Value.ref 30) _) _ _ _); (
      walk_at "use red39"
      intro r' n' h' tk' F' N' hR'
      obtain ⟨⟨t', rfl⟩, rfl⟩ := hR'))
  k_with "call ref" => ((with_reducible show wpAny _ _ (call (Value.ref 37) _) _ _ _); (
      walk_at "use carries"
      intro r' n' h' tk' F' N' hR'
      obtain ⟨⟨t', rfl⟩, rfl⟩ := hR'))
  k_steps
  · exact more_end hret (by k_asm) (by assumption) (by omega) rfl (by omega) (by assumption) (by assumption) (by assumption) (by assumption)
  · exact hret _ _ _ _ (by k_asm) (by k_asm) ⟨⟨_, congrArg (Value.int · _) (lam_val _ _ _)⟩, rfl⟩
end Mine

-- V2b
namespace Mine
/-- one letter more: things, orders, carries -/
def stp (P : Nat × Nat × Nat) (f : Nat) : Nat × Nat × Nat := (P.1 + f, P.2.1 * ch P.1 f, P.2.2 + carr P.1 f 0)
def lastv (fs : List Nat) : Nat × Nat × Nat := fs.foldl stp (0, 1, 0)
theorem lastv_snoc (fs : List Nat) (f : Nat) : lastv (fs ++ [f]) = stp (lastv fs) f := by simp [lastv]
def facs : List Nat → Nat
  | [] => 1
  | f :: r => fac f * facs r
theorem facs_snoc (fs : List Nat) (f : Nat) : facs (fs ++ [f]) = facs fs * fac f := by
  induction fs with
  | nil => simp [facs]
  | cons a r ih => simp only [List.cons_append, facs, ih, Nat.mul_assoc]
theorem facs_pos : ∀ fs, 0 < facs fs
  | [] => by decide
  | f :: r => Nat.mul_pos (fac_pos f) (facs_pos r)
def oness : List Nat → Nat
  | [] => 0
  | f :: r => ones f + oness r
theorem oness_snoc (fs : List Nat) (f : Nat) : oness (fs ++ [f]) = oness fs + ones f := by
  induction fs with
  | nil => simp [oness]
  | cons a r ih => simp only [List.cons_append, oness, ih]; omega
/-- what holds of the triple behind the letters fs -/
structure RowOk (fs : List Nat) (P : Nat × Nat × Nat) : Prop where
  things : P.1 = fs.sum
  orders : P.2.1 * facs fs = fac P.1
  carries : P.2.2 + ones P.1 = oness fs
theorem rowok_snoc {fs : List Nat} {P : Nat × Nat × Nat} (h : RowOk fs P) (f : Nat) : RowOk (fs ++ [f]) (stp P f) := by
  obtain ⟨h1, h2, h3⟩ := h
  refine ⟨by simp [stp, h1], ?_, ?_⟩
  · rw [facs_snoc]
    show P.2.1 * ch P.1 f * (facs fs * fac f) = fac (P.1 + f)
    rw [← ch_fac _ P.1 f (Nat.le_refl _), ← h2]
    simp only [Nat.mul_comm, Nat.mul_left_comm, Nat.mul_assoc]
  · rw [oness_snoc]
    show P.2.2 + carr P.1 f 0 + ones (P.1 + f) = _
    have := carr_is P.1 f
    omega
theorem lastv_ok (fs : List Nat) : RowOk fs (lastv fs) := by
  have key : ∀ (r fs : List Nat) (P : Nat × Nat × Nat), RowOk fs P → RowOk (fs ++ r) (r.foldl stp P) := by
    intro r
    induction r with
    | nil => intro fs P h; simpa using h
    | cons f r ih =>
      intro fs P h
      have := ih (fs ++ [f]) (stp P f) (rowok_snoc h f)
      simpa using this
  have := key fs [] (0, 1, 0) ⟨by simp, by simp [facs, fac], by simp [oness, ones_zero]⟩
  simpa [lastv] using this
theorem val2_facs : ∀ fs : List Nat, val2 (facs fs) + oness fs = fs.sum
  | [] => by simp [facs, oness, val2_odd (n := 1)]
  | f :: r => by
    have h1 := val2_fac f
    have h2 := val2_facs r
    have p1 := fac_pos f
    have p2 := facs_pos r
    show val2 (fac f * facs r) + (ones f + oness r) = _
    rw [val2_mul _ _ _ (Nat.le_refl _) (by omega) (by omega), List.sum_cons]
    omega
/-- Kummer -/
theorem val2_orders (fs : List Nat) : val2 (lastv fs).2.1 = (lastv fs).2.2 := by
  obtain ⟨h1, h2, h3⟩ := lastv_ok fs
  have p := fac_pos (lastv fs).1
  have p2 := facs_pos fs
  have p3 : (lastv fs).2.1 ≠ 0 := by
    intro e; rw [e] at h2; omega
  have e := congrArg val2 h2
  rw [val2_mul _ _ _ (Nat.le_refl _) p3 (by omega)] at e
  have h4 := val2_facs fs
  have h5 := val2_fac (lastv fs).1
  omega
theorem orders_pos (fs : List Nat) : 0 < (lastv fs).2.1 := by
  obtain ⟨h1, h2, h3⟩ := lastv_ok fs
  have p := fac_pos (lastv fs).1
  rcases Nat.eq_zero_or_pos (lastv fs).2.1 with e | e
  · rw [e] at h2; omega
  · exact e
theorem fac_mono {a b : Nat} (h : a ≤ b) : fac a ≤ fac b := by
  induction b with
  | zero => have : a = 0 := by omega
            subst this; exact Nat.le_refl _
  | succ b ih =>
    by_cases e : a = b + 1
    · subst e; exact Nat.le_refl _
    · have := ih (by omega)
      show fac a ≤ fac b * (b + 1)
      exact Nat.le_trans this (Nat.le_mul_of_pos_right _ (by omega))
theorem fac75 : fac 75 < 16 ^ 100 := by decide +kernel
theorem orders_lt {fs : List Nat} (h : fs.sum ≤ 75) : (lastv fs).2.1 < 16 ^ 100 := by
  obtain ⟨h1, h2, h3⟩ := lastv_ok fs
  have p2 := facs_pos fs
  have h4 : (lastv fs).2.1 ≤ fac (lastv fs).1 := by rw [← h2]; exact Nat.le_mul_of_pos_right _ p2
  exact Nat.lt_of_le_of_lt (Nat.le_trans h4 (fac_mono (by omega))) fac75
/-- the figures of a number, the last one last -/
def digs (n : Nat) : List Nat := (wordB n).map fun c => c.toNat - 65
theorem digs_zero : digs 0 = [] := by simp [digs, wordB_zero]
theorem digs_step {n : Nat} (h : n ≠ 0) : digs n = digs (n / 16) ++ [n % 16] := by
  unfold digs
  rw [wordB_step h, List.map_append]
  have : (UInt8.ofNat (65 + n % 16)).toNat - 65 = n % 16 := by
    rw [UInt8.toNat_ofNat_of_lt' (by show _ < 256; omega)]; omega
  simp only [List.map_cons, List.map_nil, this]
theorem ones_16 (n : Nat) : ones n = ones (n / 16) + ones (n % 16) := by
  rw [ones_step n, ones_step (n / 2), ones_step (n / 2 / 2), ones_step (n / 2 / 2 / 2)]
  rw [ones_step (n % 16), ones_step (n % 16 / 2), ones_step (n % 16 / 2 / 2), ones_step (n % 16 / 2 / 2 / 2), show n % 16 / 2 / 2 / 2 / 2 = 0 by omega, ones_zero, show n / 2 / 2 / 2 / 2 = n / 16 by omega]
  omega
theorem oness_digs (n : Nat) : oness (digs n) = ones n := by
  induction n using Nat.strongRecOn with
  | ind n ih =>
    by_cases h : n = 0
    · subst h; simp [digs_zero, oness, ones_zero]
    · rw [digs_step h, oness_snoc, ih (n / 16) (by omega), ones_16 n]
theorem sum_snoc (l : List Nat) (x : Nat) : (l ++ [x]).sum = l.sum + x := by simp
theorem dg (n : Nat) : (digs n).sum = (digs (n / 16)).sum + n % 16 ∧ facs (digs n) = facs (digs (n / 16)) * fac (n % 16) := by
  by_cases h : n = 0
  · subst h; simp [digs_zero, facs, fac]
  · rw [digs_step h, sum_snoc, facs_snoc]; exact ⟨rfl, rfl⟩
theorem five (n : Nat) (h : n < 1048576) : (digs n).sum = dsum n ∧ facs (digs n) = fac (fig n 4) * fac (fig n 3) * fac (fig n 2) * fac (fig n 1) * fac (fig n 0) := by
  have d0 := dg n
  have d1 := dg (n / 16)
  have d2 := dg (n / 16 / 16)
  have d3 := dg (n / 16 / 16 / 16)
  have d4 := dg (n / 16 / 16 / 16 / 16)
  have e : n / 16 / 16 / 16 / 16 / 16 = 0 := by omega
  rw [e, digs_zero] at d4
  have f0 : fig n 0 = n % 16 := by simp [fig]
  have f1 : fig n 1 = n / 16 % 16 := by simp [fig]
  have f2 : fig n 2 = n / 16 / 16 % 16 := by simp [fig, Nat.div_div_eq_div_mul]
  have f3 : fig n 3 = n / 16 / 16 / 16 % 16 := by simp [fig, Nat.div_div_eq_div_mul]
  have f4 : fig n 4 = n / 16 / 16 / 16 / 16 % 16 := by simp [fig, Nat.div_div_eq_div_mul]
  refine ⟨?_, ?_⟩
  · unfold dsum
    rw [f0, f1, f2, f3, f4]
    have := d4.1
    simp only [List.sum_nil] at this
    omega
  · rw [d0.2, d1.2, d2.2, d3.2, d4.2, f0, f1, f2, f3, f4]
    simp [facs]
theorem digs_len (n : Nat) (h : n < 1048576) : (digs n).length ≤ 5 := by
  have := wordB_len 5 n h
  simpa [digs] using this
theorem sum_prefix (l : List Nat) (i : Nat) : (l.take i).sum ≤ l.sum := by
  have : l.sum = (l.take i).sum + (l.drop i).sum := by rw [← List.sum_append, List.take_append_drop]
  omega
theorem digs_sum_le (n : Nat) (h : n < 1048576) (i : Nat) : ((digs n).take i).sum ≤ 75 := by
  have := (five n h).1
  have := dsum_le n
  have := sum_prefix (digs n) i
  omega
/-- Legendre: the row's end -/
theorem lastv_due (n : Nat) (h : n < 1048576) : (lastv (digs n)).1 = dsum n ∧ (lastv (digs n)).2.1 = dord n ∧ (lastv (digs n)).2.2 + ones (dsum n) = ones n := by
  obtain ⟨h1, h2, h3⟩ := lastv_ok (digs n)
  obtain ⟨e1, e2⟩ := five n h
  have hT : (lastv (digs n)).1 = dsum n := by omega
  refine ⟨hT, ?_, by rw [← hT, h3, oness_digs]⟩
  rw [hT] at h2
  unfold dord
  rw [← h2, e2]
  have p := facs_pos (digs n)
  rw [e2] at p
  simp only [Nat.div_div_eq_div_mul]
  rw [show fac (fig n 4) * fac (fig n 3) * fac (fig n 2) * fac (fig n 1) * fac (fig n 0) = fac (fig n 0) * fac (fig n 1) * fac (fig n 2) * fac (fig n 3) * fac (fig n 4) by ac_rfl] at p ⊢
  rw [Nat.mul_div_cancel _ p]
end Mine

-- P2b
namespace Mine
open PySem.Calls PySem.Spec
section
variable {prog : Program} {w : World} {A : Around} {E : Value → Shared → Prop} {s : Shared} {env : Env} {h₀ : Heap} {L : Addr} {m : Str → Option Value} {news : Led}
/-- a loop over a made list; the ledger turns, Inv holds of it -/
theorem loop_listG {x : Str} {body : List Stmt} {Q : Flow → Shared → Prop} {l : Addr} {vs : List Value} {nn : Nat} {m₀ : Str → Option Value} (Inv : Led → Prop) (h0 : Inv news) (stored : List Str)
    (hh : A.handled = none) (F : Fr h₀ env.locals s.heap m₀) (N : News h₀ env.locals s.heap news) (hl : ∀ nx, Inv nx → (l, listOf vs.toArray nn) ∈ nx)
    (turn : ∀ (nw : Led) (I : Addr) (i : Nat) (v : Value) (u : Str → Option Value) h tk oI, Inv nw → (∀ p ∈ nw, p.1 ≠ I) → vs[i]? = some v → Fr h₀ env.locals h (fun y => if y = x then some v else if stored.contains y then u y else m₀ y) → News h₀ env.locals h ((I, oI) :: nw) →
      wpAny (model prog w) A (execs body env) (ITurn h₀ env.locals I oI { s with heap := h, toks := tk } x (fun _ : Unit => []) stored m₀ (fun _ nx => Inv nx) Q) E { s with heap := h, toks := tk })
    (done : ∀ (nw : Led) (u : Str → Option Value) h tk, Inv nw → Fr h₀ env.locals h (fun y => if y = x then u y else if stored.contains y then u y else m₀ y) → News h₀ env.locals h nw → Q .next { s with heap := h, toks := tk }) :
    wpAny (model prog w) A (pyIter (.ref l)) (fun it s₂ => LoopAtV prog w A h₀ env x body Q E it s₂) E s := by
  have hl0 := hl _ h0
  have hol := (N _ hl0).1
  have hL : s.heap.IsList l vs.toArray := ⟨_, hol, rfl, nn, rfl⟩
  have hne : l ≠ s.heap.objs.size := Nat.ne_of_lt (Heap.lt_size hol)
  have hnl : ∀ p ∈ news, p.1 < s.heap.objs.size := fun p hp => Heap.lt_size (N p hp).1
  refine wpAny_pyIter_list hL ?_
  have W := Walks.list (prog := prog) (w := w) hh s.heap.objs.size l hne vs.toArray
  refine iloop (fun _ : Unit => []) stored (fun _ _ nx => Inv nx) () W ?_ ?_ ?_ (F.push _) (News.push F N _ rfl) (fun p hp => Nat.ne_of_lt (hnl p hp)) (fun _ h => nomatch h) h0 (.head _) (fun i h st => let ⟨o, ho, _⟩ := st.1; ⟨o, ho⟩) ?_ ?_
  · intro hm
    rcases List.mem_cons.mp hm with e | hm
    · exact absurd F.ns.lt (e ▸ Nat.lt_irrefl _)
    · exact (N _ hl0).2.1 (List.mem_singleton.mp hm).symm
  · intro a ha
    rcases List.mem_cons.mp ha with e | ha
    · exact .inl e
    · rw [List.mem_singleton.mp ha]; exact .inr (.inr ⟨listOf vs.toArray nn, fun _ _ nx e => hl nx e⟩)
  · exact ⟨⟨_, Heap.get?_push_size _ rfl, rfl, rfl⟩, hL.at fun o e => Heap.get?_push_of_some _ e⟩
  · rintro i _ v nx u h tk oI _ hP hI ha F' N'
    exact turn nx _ i v u h tk oI hI ha (by simpa using hP) F' N'
  · rintro _ nx u h tk hI _ F' N'
    exact done nx u h tk hI F' N'
end
section
variable {prog : Program} {w : World} {A : Around} {h₀ : Heap} {L : Addr} {m : Str → Option Value} {env : Env} {elt : PySem.Expr} {x : Str} {scope : Scope} {cl : List (Str × Addr)} {s : Shared} {S : List (Addr × Obj) → Prop} {Fin : List Value → List (Addr × Obj) → Prop} {news : List (Addr × Obj)}
/-- a list display over a made list of anything, whose items come out as ints -/
theorem comp_any {vs : List Value} (g : Nat → Int)
    (turn : ∀ i v I oI C oC D m₂ ys h tk (E' : Value → Shared → Prop), vs[i]? = some v → LCg.NsObj oC m₂ → m₂ x = some v → Fr h₀ L h m → News h₀ L h ((I, oI) :: (C, oC) :: (D, LCg.lst ys) :: news) → LCg.Off3 I C D news → ((@Ne Nat I C) ∧ (@Ne Nat I D) ∧ (@Ne Nat C D)) →
      wpAny (model prog w) A (eval elt (compEnvC scope cl C env)) (LCg.CompEnd h₀ L m { s with heap := h, toks := tk } I oI C oC D (LCg.lst ys) S (fun y news' => KCfEl news (g i) y news')) E' { s with heap := h, toks := tk })
    (fin : ∀ ys, IntsAre ys ((List.range vs.length).map g) → Fin ys news) : LCg.CompRest prog w A h₀ L m env elt x scope cl s S (fun i v => vs.toArray[i]? = some v) Fin vs.toArray.size 0 [] news := by
  have key : ∀ (j i : Nat) (ys : List Value), i + j = vs.length → IntsAre ys ((List.range i).map g) → LCg.CompRest prog w A h₀ L m env elt x scope cl s S (fun i v => vs.toArray[i]? = some v) Fin j i ys news := by
    intro j
    induction j with
    | zero =>
      intro i ys hi hy
      have e : i = vs.length := by omega
      subst e
      exact LCg.CompRest.zero (fin ys hy)
    | succ j ih =>
      intro i ys hi hy
      refine LCg.CompRest.succ ?_
      intro v I oI C oC D m₂ h tk E' hv hC hx F N off ne
      refine wpAny_mono (turn i v I oI C oC D m₂ ys h tk E' (by simpa using hv) hC hx F N off ne) (fun y s₂ hq => ?_) fun _ _ e => e
      obtain ⟨h', tk', nw, e, F', N', off', hS, hn, t', hy'⟩ := hq
      rw [hn] at N' off' hS
      refine ⟨h', tk', news, e, F', N', off', hS, ?_⟩
      rw [hy']
      refine ih (i + 1) _ (by omega) ?_
      rw [List.range_succ]
      simpa using IntsAre.append hy (.cons (g i) t' .nil)
  rw [List.size_toArray]
  exact key vs.length 0 [] (by omega) (by simp; exact .nil)
end
/-- the row so far lies at l -/
def RowAt (l : Addr) (fs : List Nat) (nx : Led) : Prop := ∃ (vs : List Value) (nn : Nat), (l, listOf vs.toArray nn) ∈ nx ∧ vs.length = fs.length + 1 ∧ ∀ i, i ≤ fs.length → ∃ q t1 t2 t3, vs[i]? = some (.ref q) ∧ (q, tupO [.int ((lastv (fs.take i)).1 : Int) t1, .int ((lastv (fs.take i)).2.1 : Int) t2, .int ((lastv (fs.take i)).2.2 : Int) t3]) ∈ nx
theorem RowAt.mono {l : Addr} {fs : List Nat} {nx nx' : Led} (h : RowAt l fs nx) (hs : ∀ p ∈ nx, p ∈ nx') : RowAt l fs nx' := by
  obtain ⟨vs, nn, h1, h2, h3⟩ := h
  exact ⟨vs, nn, hs _ h1, h2, fun i hi => let ⟨q, t1, t2, t3, e, hm⟩ := h3 i hi; ⟨q, t1, t2, t3, e, hs _ hm⟩⟩
theorem rowat0 {l q : Addr} {nn : Nat} {t1 t2 t3 : Tok} {nx : Led} (h1 : (l, listOf [Value.ref q].toArray nn) ∈ nx) (h2 : (q, tupO [.int 0 t1, .int 1 t2, .int 0 t3]) ∈ nx) : RowAt l [] nx := by
  refine ⟨_, _, h1, rfl, fun i hi => ⟨q, t1, t2, t3, ?_, ?_⟩⟩
  · have : i = 0 := by simpa using hi
    subst this; rfl
  · simpa [lastv] using h2
theorem rowat_snoc {l l' D : Addr} {fs : List Nat} {k : Nat} {vs : List Value} {n2 : Nat} {t1 t2 t3 : Tok} {nx : Led} (hlen : vs.length = fs.length + 1)
    (h : ∀ i, i ≤ fs.length → ∃ q t1 t2 t3, vs[i]? = some (.ref q) ∧ (q, tupO [.int ((lastv (fs.take i)).1 : Int) t1, .int ((lastv (fs.take i)).2.1 : Int) t2, .int ((lastv (fs.take i)).2.2 : Int) t3]) ∈ nx)
    (hl' : (l', listOf (vs ++ [Value.ref D]).toArray n2) ∈ nx) (hD : (D, tupO [.int (((lastv fs).1 + k : Nat) : Int) t1, .int (((lastv fs).2.1 * ch (lastv fs).1 k : Nat) : Int) t2, .int (((lastv fs).2.2 + carr (lastv fs).1 k 0 : Nat) : Int) t3]) ∈ nx) : RowAt l' (fs ++ [k]) nx := by
  refine ⟨_, _, hl', by simp [hlen], fun i hi => ?_⟩
  by_cases e : i = fs.length + 1
  · subst e
    refine ⟨D, t1, t2, t3, ?_, ?_⟩
    · rw [List.getElem?_append_right (by omega), hlen]; simp
    · rw [show (fs ++ [k]).take (fs.length + 1) = fs ++ [k] from List.take_of_length_le (by simp), lastv_snoc]
      exact hD
  · have hi' : i ≤ fs.length := by simp at hi; omega
    obtain ⟨q, u1, u2, u3, h1, h2⟩ := h i hi'
    refine ⟨q, u1, u2, u3, ?_, ?_⟩
    · rw [List.getElem?_append_left (by omega)]; exact h1
    · rw [List.take_append_of_le_length hi']; exact h2
section
variable {prog : Program} {w : World} {A : Around} {E : Value → Shared → Prop} {s : Shared} {h₀ : Heap} {L : Addr} {m : Str → Option Value} {news : Led}
theorem item_last {value slice : PySem.Expr} {l : Addr} {vs : List Value} {nn : Nat} {u : Tok} {v : Value} {Q : Value → Shared → Prop} (N : News h₀ L s.heap news) (hl : (l, listOf vs.toArray nn) ∈ news) (hp : 0 < vs.length) (hx : vs[vs.length - 1]? = some v) (h : Q v s)
    (hs : subscripted slice false (.ref l) (.int (-1) u) = operate [.ref l, .int (-1) u] (getItem (.ref l) (.int (-1) u)) := by with_unfolding_all rfl) :
    wpAny (model prog w) A (subscriptTail value slice (.ref l) (.int (-1) u)) Q E s :=
  have hl' : s.heap.IsList l vs.toArray := ⟨_, (N _ hl).1, rfl, nn, rfl⟩
  tail_any hl'.typeIs slot_list_getitem.lookup (wpAny_getItem_list_neg hl' (by decide) (by simp; omega) (by decide) (by
    have : (-1 + (vs.toArray.size : Int)).toNat = vs.length - 1 := by simp; omega
    rw [this]; simpa using hx) h) hs
theorem add1_end {l b : Addr} {v : Value} {ws : List Value} {n1 n2 : Nat} {Q : Value → Shared → Prop} (F : Fr h₀ L s.heap m) (N : News h₀ L s.heap news) (hl : (l, listOf ws.toArray n1) ∈ news) (hb : (b, listOf [v].toArray n2) ∈ news) (hsz : ws.length ≤ 1000)
    (h : ∀ D h', Fr h₀ L h' m → News h₀ L h' ((D, listOf (ws ++ [v]).toArray 0) :: news) → (∀ p ∈ news, p.1 < D) → Q (.ref D) { s with heap := h' }) :
    wpAny (model prog w) A (binaryOp .Add (.ref l) (.ref b)) Q E s :=
  add_lists (vs := ws) (ws := [v]) F N ⟨_, (N _ hl).1, rfl, n1, rfl⟩ ⟨_, (N _ hb).1, rfl, n2, rfl⟩ (fun h' F' N' => h _ h' F' N' fun p hp => Heap.lt_size (N p hp).1) (by rw [sizeLine_eq]; simp; omega)
end
end Mine

-- P2c
namespace Mine
theorem int2ap_to {w : World} {p : Program} {loose : List Str} {mean : ExcName → Option Value} {mg mb : Str → Option Value} (news : Led) (n : Int) (t : Tok) (m : Nat) (hm : n.natAbs = m) (hn : m < 16 ^ 100) :
    FnSpec Challenge.rw_nq0005_02.row.prog w (hd.heap_39 w.params) p loose mean mg mb (.ref 21) [.int n t] 1 8 news (fun r n' => (∃ t, r = .bytes (wordB m).toArray t) ∧ n' = news) := by
  subst hm
  intro dp un gd cn cs a ccd cl outer A₀ base h₀ L m s Q E B F X N T hk hd' hu hret
  exact int2ap news n t dp un gd cn cs a ccd cl outer A₀ base h₀ L m s Q E B F X N T hk (Nat.le_trans (wordB_len 100 _ hn) (by decide)) hd' hu fun t' h' tk' F' N' => hret _ _ h' tk' F' N' ⟨⟨t', rfl⟩, rfl⟩
theorem wordB_mem : ∀ (n : Nat) (c : UInt8), c ∈ wordB n → ∃ i, i < 16 ∧ c.toNat = 65 + i := by
  intro n
  induction n using Nat.strongRecOn with
  | ind n ih =>
    intro c hc
    by_cases h0 : n = 0
    · subst h0; rw [wordB_zero] at hc; cases hc
    · rw [wordB_step h0] at hc
      rcases List.mem_append.mp hc with hc | hc
      · exact ih (n / 16) (by omega) c hc
      · rw [List.mem_singleton.mp hc]
        refine ⟨n % 16, by omega, ?_⟩
        rw [UInt8.toNat_ofNat_of_lt']; show _ < 256; omega
/-- what the lambda of the law leaves -/
def Lam72R (T39 : Obj) (rest restT restR : Led) (fs : List Nat) (r : Value) (n : Led) : Prop :=
  ∃ l' T' extra, r = .ref l' ∧ n = (39, T') :: (extra ++ rest) ∧ LamTab lp39 lq39 T' (extra ++ restT) ∧ RowAt l' fs (extra ++ restR) ∧ (∀ x ∈ extra, ∀ q ∈ (39, T39) :: rest, q.1 < x.1)
def Lam72 (w : World) (p : Program) (loose : List Str) (mean : ExcName → Option Value) (mg mb : Str → Option Value) (f : Addr) (lam : Obj) (c' : Addr) (oc : Obj) : Prop :=
  ∀ (T39 : Obj) (rest restT restR : Led) (fs : List Nat) (l : Addr) (k : Nat) (tk : Tok), (f, lam) ∈ rest → (c', oc) ∈ rest → (∀ q ∈ rest, q.1 ≠ 39) → (∀ p ∈ restT, p ∈ rest) → (∀ p ∈ restR, p ∈ rest) → LamTab lp39 lq39 T39 restT → RowAt l fs restR → fs.sum ≤ 75 → fs.length ≤ 100 → k ≤ 15 →
    FnSpec Challenge.rw_nq0005_02.row.prog w (hd.heap_39 w.params) p loose mean mg mb (.ref f) [.ref l, .int (65 + (k : Int)) tk] 4 40 ((39, T39) :: rest) (Lam72R T39 rest restT restR (fs ++ [k]))
theorem red72 {w : World} {p : Program} {loose : List Str} {mean : ExcName → Option Value} {mg mb : Str → Option Value} {f : Addr} {fd : FuncData} {c' : Addr} {oc : Obj} (hlam : Lam72 w p loose mean mg mb f ⟨.type "function", none, .func fd, #[]⟩ c' oc) (T0 : Obj) (rest restT restR : Led) (l0 : Addr) (n : Nat) (tb : Tok) (hn : n < 1048576)
    (hf : (f, (⟨.type "function", none, .func fd, #[]⟩ : Obj)) ∈ rest) (hc : (c', oc) ∈ rest) (h39 : ∀ q ∈ rest, q.1 ≠ 39) (hsT : ∀ p ∈ restT, p ∈ rest) (hsR : ∀ p ∈ restR, p ∈ rest) (hT : LamTab lp39 lq39 T0 restT) (hrow : RowAt l0 [] restR) :
    FnSpec Challenge.rw_nq0005_02.row.prog w (hd.heap_39 w.params) p loose mean mg mb (.ref 30) [.ref f, .bytes (wordB n).toArray tb, .ref l0] 5 48 ((39, T0) :: rest) (Lam72R T0 rest restT restR (digs n)) := by
  have h0 : (l0, _) ∈ rest := hsR _ hrow.choose_spec.choose_spec.1
  have key := reduce_bytes (w := w) (p := p) (loose := loose) (mean := mean) (mg := mg) (mb := mb) ((39, T0) :: rest) f (wordB n).toArray tb (.ref l0) 4 40 (fun i v nx => Lam72R T0 rest restT restR ((digs n).take i) v nx)
    ⟨l0, T0, [], rfl, rfl, hT, hrow, fun _ h => nomatch h⟩ (.inr ⟨l0, _, rfl, .tail _ h0⟩) (fun i v nx h => by
      obtain ⟨l', T', extra, _, e, _⟩ := h
      rw [e]; exact .tail _ (List.mem_append_right _ hf)) ?_
  · refine key.mono (fun _ h => h) (by decide) (by decide) fun r m h => ⟨m, fun _ h => h, ?_⟩
    have : (digs n).take (wordB n).toArray.size = digs n := List.take_of_length_le (by simp [digs])
    rw [this] at h
    exact h
  · rintro i v ch tc nx I oI hch ⟨l', T', extra, rfl, rfl, hT', hR', hord⟩ hI
    have hch' : (wordB n)[i]? = some ch := by simpa using hch
    obtain ⟨j, hj, hcj⟩ := wordB_mem n ch (List.mem_of_getElem? hch')
    have hd : (digs n)[i]? = some j := by
      unfold digs; rw [List.getElem?_map, hch']; simp; omega
    have e : (digs n).take (i + 1) = (digs n).take i ++ [j] := by rw [List.take_add_one, hd]; rfl
    have hlen := digs_len n hn
    have hI39 : 39 ≠ I := hI (39, T') (.head _)
    have := hlam T' ((I, oI) :: (extra ++ rest)) (extra ++ restT) (extra ++ restR) ((digs n).take i) l' j tc (.tail _ (List.mem_append_right _ hf)) (.tail _ (List.mem_append_right _ hc)) ?_ ?_ (fun p hp => .tail _ (mem_more hsR hp)) hT' hR' (digs_sum_le n hn i) (by simp; omega) (by omega)
    · rw [show ((ch.toNat : Nat) : Int) = 65 + (j : Int) by omega]
      refine this.mono ?_ (by decide) (by decide) fun r m h => ?_
      · intro q hq
        simp only [List.mem_cons] at hq ⊢
        rcases hq with h | h | h <;> simp [h]
      · obtain ⟨l2, T2, ex2, rfl, rfl, hT2, hR2, hord2⟩ := h
        refine ⟨(I, oI) :: (39, T2) :: (ex2 ++ (extra ++ rest)), ?_, _, rfl, ?_, ?_⟩
        · intro q hq
          simp only [List.mem_cons, List.mem_append] at hq ⊢
          rcases hq with h | h | h | h | h <;> simp [h]
        · intro q hq
          rcases List.mem_cons.mp hq with rfl | hq
          · exact hI39
          · rcases List.mem_append.mp hq with h | h
            · exact Nat.ne_of_gt (hord2 q h (I, oI) (.tail _ (.head _)))
            · exact hI q (.tail _ h)
        · rw [e]
          refine ⟨l2, T2, ex2 ++ extra, rfl, by rw [List.append_assoc], by rw [List.append_assoc]; exact hT2, by rw [List.append_assoc]; exact hR2, ?_⟩
          intro x hx q hq
          rcases List.mem_append.mp hx with h | h
          · rcases List.mem_cons.mp hq with rfl | hq
            · exact hord2 x h (39, T') (.head _)
            · exact hord2 x h q (.tail _ (.tail _ (List.mem_append_right _ hq)))
          · exact hord x h q hq
    · intro q hq
      rcases List.mem_cons.mp hq with rfl | hq
      · exact Ne.symm hI39
      · rcases List.mem_append.mp hq with h | h
        · exact Nat.ne_of_gt (hord q h (39, T0) (.head _))
        · exact h39 q h
    · intro q hq
      rcases List.mem_append.mp hq with h | h
      · exact .tail _ (List.mem_append_left _ h)
      · exact .tail _ (List.mem_append_right _ (hsT q h))
theorem have72 {w : World} {p : Program} {loose : List Str} {mean : ExcName → Option Value} {mg mb : Str → Option Value} {h₀ h : Heap} {L f : Addr} {lam : Obj} {c' : Addr} {oc : Obj} {more : Led} {C : Prop}
    (_X : (hd.heap_39 w.params).In h₀) (_T : Top p loose mean mg mb h₀) (_N : News h₀ L h ((f, lam) :: more)) (_h : (c', oc) ∈ more)
    (h1 : Lam72 w p loose mean mg mb f lam c' oc) (h2 : Lam72 w p loose mean mg mb f lam c' oc → C) : C := h2 h1
end Mine

-- P2d
namespace Mine
abbrev lp72 : Pos := { line := 68, col := 21, endLine := 68, endCol := 89 }
abbrev lq72 : Str := Str.ofString "law" ++ ".<locals>." ++ "<lambda>"
/-- the ledger between two turns of the law's loop -/
structure MRest (l : Addr) (ws : List Value) (nn : Nat) (T39 T72 : Obj) (rest : Led) : Prop where
  t39 : LamTab lp39 lq39 T39 rest
  t72 : LamTab lp72 lq72 T72 rest
  src : (l, listOf ws.toArray nn) ∈ rest
  off39 : ∀ q ∈ rest, q.1 ≠ 39
  off72 : ∀ q ∈ rest, q.1 ≠ 72
def MInv (l : Addr) (ws : List Value) (nn : Nat) (nw : Led) : Prop := ∃ T39 T72 rest, nw = (39, T39) :: (72, T72) :: rest ∧ MRest l ws nn T39 T72 rest
theorem minv0 {l D l' : Addr} {ws : List Value} {nn : Nat} {o1 o2 : Obj} (h : D < l ∧ l' < l ∧ 39 < l ∧ 72 < l) (h1 : l' < D ∧ 39 < D ∧ 72 < D) (h2 : 39 < l' ∧ 72 < l') : MInv l ws nn [(39, tabObj #[]), (72, tabObj #[]), (l, listOf ws.toArray nn), (D, o1), (l', o2)] := by
  refine ⟨_, _, _, rfl, .inl rfl, .inl rfl, .head _, ?_, ?_⟩
  · intro q hq
    rcases List.mem_cons.mp hq with rfl | hq
    · exact Nat.ne_of_gt h.2.2.1
    · rcases List.mem_cons.mp hq with rfl | hq
      · exact Nat.ne_of_gt h1.2.1
      · rw [List.mem_singleton.mp hq]; exact Nat.ne_of_gt h2.1
  · intro q hq
    rcases List.mem_cons.mp hq with rfl | hq
    · exact Nat.ne_of_gt h.2.2.2
    · rcases List.mem_cons.mp hq with rfl | hq
      · exact Nat.ne_of_gt h1.2.2
      · rw [List.mem_singleton.mp hq]; exact Nat.ne_of_gt h2.2
/-- behind the reduce: the ledger in its plain form again -/
def Row72 (I : Addr) (oI : Obj) (T72 : Obj) (l : Addr) (ws : List Value) (nn : Nat) (fs : List Nat) (r : Value) (n : Led) : Prop :=
  ∃ lr T39 rest, r = .ref lr ∧ n = (I, oI) :: (39, T39) :: (72, T72) :: rest ∧ MRest l ws nn T39 T72 rest ∧ RowAt lr fs rest ∧ (∀ q ∈ rest, q.1 ≠ I) ∧ 39 ≠ I ∧ 72 ≠ I
theorem row72_use {w : World} {p : Program} {loose : List Str} {mean : ExcName → Option Value} {mg mb : Str → Option Value} {f : Addr} {fd : FuncData} {c' : Addr} {oc : Obj} {l0 q0 I l : Addr} {oI T39 T72 T72' : Obj} {extra rest : Led} {ws : List Value} {nn n1 : Nat} {t1 t2 t3 : Tok} {n : Nat} (tb : Tok)
    (hlam : Lam72 w p loose mean mg mb f ⟨.type "function", none, .func fd, #[]⟩ c' oc) (hn : n < 1048576)
    (hM : MRest l ws nn T39 T72 rest) (hI : ∀ p ∈ (39, T39) :: (72, T72) :: rest, p.1 ≠ I)
    (hx : ∀ x ∈ extra, ∀ q ∈ (72, T72) :: (I, oI) :: (39, T39) :: rest, q.1 < x.1) (hf1 : 72 < f) (hf2 : ∀ q ∈ extra ++ (I, oI) :: (39, T39) :: rest, q.1 < f)
    (hT72 : LamTab lp72 lq72 T72' (extra ++ rest)) (hc : (c', oc) ∈ extra ++ rest)
    (hq2 : f < q0 ∧ 72 < q0 ∧ AllLt q0 (extra ++ (I, oI) :: (39, T39) :: rest)) (hl0 : q0 < l0 ∧ f < l0 ∧ 72 < l0 ∧ AllLt l0 (extra ++ (I, oI) :: (39, T39) :: rest)) :
    FnSpec Challenge.rw_nq0005_02.row.prog w (hd.heap_39 w.params) p loose mean mg mb (.ref 30) [.ref f, .bytes (wordB n).toArray tb, .ref l0] 5 48
      ((l0, listOf [Value.ref q0].toArray n1) :: (q0, tupO [.int 0 t1, .int 1 t2, .int 0 t3]) :: (f, (⟨.type "function", none, .func fd, #[]⟩ : Obj)) :: (72, T72') :: (extra ++ (I, oI) :: (39, T39) :: rest)) (Row72 I oI T72' l ws nn (digs n)) := by
  have hl0' := ktn_ltOf hl0.2.2.2
  have hq' := ktn_ltOf hq2.2.2
  have i39 : 39 ≠ I := hI _ (.head _)
  have i72 : 72 ≠ I := hI _ (.tail _ (.head _))
  have mI : (I, oI) ∈ extra ++ (I, oI) :: (39, T39) :: rest := List.mem_append_right _ (.head _)
  have m39 : (39, T39) ∈ extra ++ (I, oI) :: (39, T39) :: rest := List.mem_append_right _ (.tail _ (.head _))
  have a1 := hl0' _ mI
  have a2 := hl0' _ m39
  have a3 := hq' _ mI
  have a4 := hq' _ m39
  have a5 := hf2 _ mI
  have a6 := hf2 _ m39
  dsimp only at a1 a2 a3 a4 a5 a6
  have ex : ∀ x ∈ extra, x.1 ≠ I ∧ x.1 ≠ 39 ∧ x.1 ≠ 72 := fun x h =>
    ⟨Nat.ne_of_gt (hx x h _ (.tail _ (.head _))), Nat.ne_of_gt (hx x h _ (.tail _ (.tail _ (.head _)))), Nat.ne_of_gt (hx x h _ (.head _))⟩
  -- the ledger that the reduce is told of
  let R : Led := (l0, listOf [Value.ref q0].toArray n1) :: (q0, tupO [.int 0 t1, .int 1 t2, .int 0 t3]) :: (f, (⟨.type "function", none, .func fd, #[]⟩ : Obj)) :: (72, T72') :: (extra ++ (I, oI) :: rest)
  have sub : ∀ q ∈ (39, T39) :: R, q ∈ (l0, listOf [Value.ref q0].toArray n1) :: (q0, tupO [.int 0 t1, .int 1 t2, .int 0 t3]) :: (f, (⟨.type "function", none, .func fd, #[]⟩ : Obj)) :: (72, T72') :: (extra ++ (I, oI) :: (39, T39) :: rest) := by
    intro q hq
    simp only [R, List.mem_cons, List.mem_append] at hq ⊢
    rcases hq with h | h | h | h | h | h | h | h <;> simp [h]
  have inR : ∀ q ∈ extra ++ rest, q ∈ R := by
    intro q hq
    simp only [R, List.mem_cons, List.mem_append] at hq ⊢
    rcases hq with h | h <;> simp [h]
  have off : ∀ q ∈ (l0, listOf [Value.ref q0].toArray n1) :: (q0, tupO [.int 0 t1, .int 1 t2, .int 0 t3]) :: (f, (⟨.type "function", none, .func fd, #[]⟩ : Obj)) :: (extra ++ rest), q.1 ≠ I ∧ q.1 ≠ 39 ∧ q.1 ≠ 72 := by
    intro q hq
    rcases List.mem_cons.mp hq with rfl | hq
    · exact ⟨Nat.ne_of_gt a1, Nat.ne_of_gt a2, Nat.ne_of_gt hl0.2.2.1⟩
    · rcases List.mem_cons.mp hq with rfl | hq
      · exact ⟨Nat.ne_of_gt a3, Nat.ne_of_gt a4, Nat.ne_of_gt hq2.2.1⟩
      · rcases List.mem_cons.mp hq with rfl | hq
        · exact ⟨Nat.ne_of_gt a5, Nat.ne_of_gt a6, Nat.ne_of_gt hf1⟩
        · rcases List.mem_append.mp hq with h | h
          · exact ex q h
          · exact ⟨hI q (.tail _ (.tail _ h)), hM.off39 q h, hM.off72 q h⟩
  have r39 : ∀ q ∈ R, q.1 ≠ 39 := by
    intro q hq
    have : q ∈ (l0, listOf [Value.ref q0].toArray n1) :: (q0, tupO [.int 0 t1, .int 1 t2, .int 0 t3]) :: (f, (⟨.type "function", none, .func fd, #[]⟩ : Obj)) :: (extra ++ rest) ∨ q = (72, T72') ∨ q = (I, oI) := by
      simp only [R, List.mem_cons, List.mem_append] at hq ⊢
      rcases hq with h | h | h | h | h | h | h <;> simp [h]
    rcases this with h | rfl | rfl
    · exact (off q h).2.1
    · exact (by decide : (72 : Nat) ≠ 39)
    · exact Ne.symm i39
  have hrow : RowAt l0 [] [(l0, listOf [Value.ref q0].toArray n1), (q0, tupO [.int 0 t1, .int 1 t2, .int 0 t3])] := rowat0 (nn := n1) (.head _) (.tail _ (.head _))
  have key := red72 hlam T39 R rest _ l0 n tb hn (.tail _ (.tail _ (.head _))) (inR _ hc) r39 (fun q hq => inR q (List.mem_append_right _ hq)) (fun q hq => by
    simp only [R, List.mem_cons, List.not_mem_nil, or_false] at hq ⊢
    rcases hq with h | h <;> simp [h]) hM.t39 hrow
  refine key.mono sub (Nat.le_refl _) (Nat.le_refl _) fun r m h => ?_
  obtain ⟨lr, T', ex2, rfl, rfl, hT', hR', hord⟩ := h
  refine ⟨(I, oI) :: (39, T') :: (72, T72') :: (ex2 ++ ((l0, listOf [Value.ref q0].toArray n1) :: (q0, tupO [.int 0 t1, .int 1 t2, .int 0 t3]) :: (f, (⟨.type "function", none, .func fd, #[]⟩ : Obj)) :: (extra ++ rest))), ?_, lr, T', _, rfl, rfl, ⟨?_, ?_, ?_, ?_, ?_⟩, ?_, ?_, i39, i72⟩
  · intro q hq
    simp only [R, List.mem_cons, List.mem_append] at hq ⊢
    rcases hq with h | h | h | h | h | h | h | h | h <;> simp [h]
  · exact hT'.mono fun q hq => by
      simp only [List.mem_cons, List.mem_append] at hq ⊢
      rcases hq with h | h <;> simp [h]
  · exact hT72.mono fun q hq => by
      simp only [List.mem_cons, List.mem_append] at hq ⊢
      rcases hq with h | h <;> simp [h]
  · simp [hM.src]
  · intro q hq
    rcases List.mem_append.mp hq with h | h
    · exact Nat.ne_of_gt (hord q h _ (.head _))
    · exact (off q h).2.1
  · intro q hq
    rcases List.mem_append.mp hq with h | h
    · exact Nat.ne_of_gt (hord q h (72, T72') (.tail _ (.tail _ (.tail _ (.tail _ (.head _))))))
    · exact (off q h).2.2
  · exact hR'.mono fun q hq => by
      simp only [List.mem_cons, List.mem_append, List.not_mem_nil, or_false] at hq ⊢
      rcases hq with h | h | h <;> simp [h]
  · intro q hq
    rcases List.mem_append.mp hq with h | h
    · exact Nat.ne_of_gt (hord q h (I, oI) (.tail _ (.tail _ (.tail _ (.tail _ (.tail _ (List.mem_append_right _ (.head _))))))))
    · exact (off q h).1
end Mine

-- P2e
namespace Mine
open PySem.Calls PySem.Spec
theorem more_use {w : World} {p : Program} {loose : List Str} {mean : ExcName → Option Value} {mg mb : Str → Option Value} {rest rest₀ : Led} {Tb : Obj} (hP : ∀ q ∈ rest, q.1 ≠ 39) (hs₀ : ∀ p ∈ rest₀, p ∈ rest) (hT : LamTab lp39 lq39 Tb rest₀) {fr : Addr} {P : Nat × Nat × Nat} {f : Nat} {x : Int} {t1 t2 t3 t4 : Tok} (hTn : P.1 ≤ 75) (hf : f ≤ 15) (hx : x = (f : Int))
    (hfr : (fr, tupO [.int (P.1 : Int) t1, .int (P.2.1 : Int) t2, .int (P.2.2 : Int) t3]) ∈ rest) :
    FnSpec Challenge.rw_nq0005_02.row.prog w (hd.heap_39 w.params) p loose mean mg mb (.ref 44) [.ref fr, .int x t4] 3 32 ((39, Tb) :: rest) (More Tb rest rest₀ (P.1 + f) (P.2.1 * ch P.1 f) (P.2.2 + carr P.1 f 0)) := by
  subst hx
  exact more_spec rest rest₀ Tb hP hs₀ hT fr P.1 P.2.1 P.2.2 f t1 t2 t3 t4 hTn hf (.tail _ hfr)
theorem lastv_sum {fs : List Nat} (h : fs.sum ≤ 75) : (lastv fs).1 ≤ 75 := by rw [(lastv_ok fs).things]; exact h
theorem lam72_end {h₀ h' : Heap} {L l' D2 D : Addr} {m : Str → Option Value} {T39 T' : Obj} {rest restT restR extra : Led} {s : Shared} {Q : Value → Shared → Prop} {fs : List Nat} {k : Nat} {vs : List Value} {n1 n2 : Nat} {t1 t2 t3 : Tok} {tk' : Nat}
    (hret : ∀ r news' h' tk', Fr h₀ L h' m → News h₀ L h' news' → Lam72R T39 rest restT restR (fs ++ [k]) r news' → Q r { s with heap := h', toks := tk' }) (F : Fr h₀ L h' m)
    (N : News h₀ L h' ((l', listOf (vs ++ [Value.ref D]).toArray n1) :: (D2, listOf [Value.ref D].toArray n2) :: (D, tupO [.int (((lastv fs).1 + k : Nat) : Int) t1, .int (((lastv fs).2.1 * ch (lastv fs).1 k : Nat) : Int) t2, .int (((lastv fs).2.2 + carr (lastv fs).1 k 0 : Nat) : Int) t3]) :: (39, T') :: (extra ++ rest)))
    (hT : LamTab lp39 lq39 T' (extra ++ restT)) (hvl : vs.length = fs.length + 1)
    (hrow : ∀ i, i ≤ fs.length → ∃ q t1 t2 t3, vs[i]? = some (.ref q) ∧ (q, tupO [.int ((lastv (fs.take i)).1 : Int) t1, .int ((lastv (fs.take i)).2.1 : Int) t2, .int ((lastv (fs.take i)).2.2 : Int) t3]) ∈ restR)
    (hx : ∀ x ∈ extra, ∀ q ∈ (39, T39) :: rest, q.1 < x.1) (hD : ∀ q ∈ (39, T39) :: rest, q.1 < D)
    (hl' : ∀ p ∈ ((D2, listOf [Value.ref D].toArray n2) :: (D, tupO [.int (((lastv fs).1 + k : Nat) : Int) t1, .int (((lastv fs).2.1 * ch (lastv fs).1 k : Nat) : Int) t2, .int (((lastv fs).2.2 + carr (lastv fs).1 k 0 : Nat) : Int) t3]) :: (39, T') :: (extra ++ rest)), p.1 < l') : Q (.ref l') { s with heap := h', toks := tk' } := by
  refine hret _ ((39, T') :: (((l', listOf (vs ++ [Value.ref D]).toArray n1) :: (D, tupO [.int (((lastv fs).1 + k : Nat) : Int) t1, .int (((lastv fs).2.1 * ch (lastv fs).1 k : Nat) : Int) t2, .int (((lastv fs).2.2 + carr (lastv fs).1 k 0 : Nat) : Int) t3]) :: extra) ++ rest)) h' tk' F (News.sub N ?_) ⟨l', T', _, rfl, rfl, ?_, ?_, ?_⟩
  · intro q hq
    simp only [List.cons_append, List.mem_cons, List.mem_append] at hq ⊢
    rcases hq with h | h | h | h | h <;> simp [h]
  · exact hT.mono fun q hq => by
      simp only [List.cons_append, List.mem_cons, List.mem_append] at hq ⊢
      rcases hq with h | h <;> simp [h]
  · refine rowat_snoc (l := l') (n2 := n1) (t1 := t1) (t2 := t2) (t3 := t3) hvl (fun i hi => ?_) (List.mem_append_left _ (.head _)) (List.mem_append_left _ (.tail _ (.head _)))
    obtain ⟨q, u1, u2, u3, h1, h2⟩ := hrow i hi
    exact ⟨q, u1, u2, u3, h1, List.mem_append_right _ h2⟩
  · intro x hx' q hq
    rcases List.mem_cons.mp hx' with rfl | hx'
    · rcases List.mem_cons.mp hq with rfl | hq
      · exact hl' (39, T') (.tail _ (.tail _ (.head _)))
      · exact hl' q (.tail _ (.tail _ (.tail _ (List.mem_append_right _ hq))))
    · rcases List.mem_cons.mp hx' with rfl | hx'
      · exact hD q hq
      · exact hx x hx' q hq
section
variable {prog : Program} {w : World} {A : Around} {E : Value → Shared → Prop} {s : Shared} {h₀ : Heap} {L : Addr} {m : Str → Option Value} {news : Led}
theorem mod_any {a b : Int} {t u : Tok} {Q : Value → Shared → Prop} (hb : b = 1048576) (h : ∀ (N : Nat) (t' : Tok) (k : Nat), N < 1048576 → Q (.int (N : Int) t') { s with toks := k }) : wpAny (model prog w) A (binaryOp .Mod (.int a t) (.int b u)) Q E s := by
  subst hb
  refine mod_int' (by decide) ?_
  have h1 : 0 ≤ a.fmod 1048576 := Int.fmod_nonneg_of_pos _ (by decide)
  have h2 : a.fmod 1048576 < 1048576 := Int.fmod_lt_of_pos _ (by decide)
  have := h (a.fmod 1048576).toNat s.toks (s.toks + 1) (by omega)
  rwa [Int.toNat_of_nonneg h1] at this
/-- the two lists of a row: halvings and carries -/
theorem ne_rows {a b : Addr} {xs ys : List Value} {k : Nat} {fs : List Nat} {n1 n2 : Nat} {Q : Value → Shared → Prop} (N : News h₀ L s.heap news) (ha : (a, listOf xs.toArray n1) ∈ news) (hb : (b, listOf ys.toArray n2) ∈ news)
    (hi : IntsAre xs ((List.range k).map fun i => ((val2 (lastv (fs.take i)).2.1 : Nat) : Int))) (hj : IntsAre ys ((List.range k).map fun i => (((lastv (fs.take i)).2.2 : Nat) : Int))) (hu : A.units + 64 < cLine) (h : Q (.bool false) s) :
    wpAny (model prog w) A (compareOp .NotEq (.ref a) (.ref b)) Q E s := by
  refine ke_ne_ints ⟨_, (N _ ha).1, rfl, n1, rfl⟩ ⟨_, (N _ hb).1, rfl, n2, rfl⟩ hi hj hu ?_
  have e : ((List.range k).map fun i => ((val2 (lastv (fs.take i)).2.1 : Nat) : Int)) = ((List.range k).map fun i => (((lastv (fs.take i)).2.2 : Nat) : Int)) := by
    simp only [val2_orders]
  rw [e]; simpa using h
/-- the row's end against what is due -/
theorem ne_due {a b : Addr} {x1 x2 x3 y1 y2 y3 : Int} {t1 t2 t3 u1 u2 u3 : Tok} {Q : Value → Shared → Prop} (N : News h₀ L s.heap news) (ha : (a, tupO [.int x1 t1, .int x2 t2, .int x3 t3]) ∈ news) (hb : (b, tupO [.int y1 u1, .int y2 u2, .int y3 u3]) ∈ news)
    (e1 : x1 = y1) (e2 : x2 = y2) (e3 : x3 = y3) (hu : A.units + 64 < cLine) (h : Q (.bool false) s) :
    wpAny (model prog w) A (compareOp .NotEq (.ref a) (.ref b)) Q E s := by
  subst e1 e2 e3
  refine ne_dataH (da := .tuple [.int x1, .int x2, .int x3]) (db := .tuple [.int x1, .int x2, .int x3]) (reads_tuple_at (N _ ha).1 rfl rfl (.cons (.int _ _) (.cons (.int _ _) (.cons (.int _ _) .nil)))) (reads_tuple_at (N _ hb).1 rfl rfl (.cons (.int _ _) (.cons (.int _ _) (.cons (.int _ _) .nil)))) rfl rfl hu ?_
  have : (PyData.tuple [.int x1, .int x2, .int x3]).eqv (PyData.tuple [.int x1, .int x2, .int x3]) = true := by simp [PyData.eqv, PyData.eqvAll]
  rw [this]; exact h
end
theorem na1 (N : Nat) : (-(N : Int)).natAbs = N := by omega
theorem na2 (N : Nat) : ((N : Int)).natAbs = N := by omega
theorem lt100a {N : Nat} (h : N < 1048576) : N < 16 ^ 100 := Nat.lt_trans h (by decide)
end Mine

-- P2f
namespace Mine
theorem ints_some {vs : List Value} {ns : List Int} {i : Nat} {v : Value} (h : IntsAre vs ns) (hv : vs[i]? = some v) : ∃ x t, v = .int x t := by
  have hi : i < ns.length := by rw [← h.length]; exact (List.getElem?_eq_some_iff.mp hv).1
  obtain ⟨t, hx⟩ := h.get i (ns[i]'hi) (List.getElem?_eq_getElem hi)
  rw [hx] at hv
  exact ⟨_, t, (Option.some.inj hv).symm⟩
theorem perm5 {a b c d e : Addr × Obj} : ∀ p ∈ [d, e, a, b, c], p ∈ [a, b, c, d, e] := by
  intro p hp
  simp only [List.mem_cons, List.not_mem_nil, or_false] at hp ⊢
  rcases hp with h | h | h | h | h <;> simp [h]
theorem minv_src {l : Addr} {ws : List Value} {nn : Nat} {nw : Led} (h : MInv l ws nn nw) : (l, listOf ws.toArray nn) ∈ nw := by
  obtain ⟨T39, T72, rest, rfl, hM⟩ := h
  exact .tail _ (.tail _ hM.src)
theorem swap_72 {a b c : Addr × Obj} {rest : Led} : ∀ p ∈ c :: a :: b :: rest, p ∈ a :: b :: c :: rest := by
  intro p hp
  simp only [List.mem_cons] at hp ⊢
  rcases hp with h | h | h | h <;> simp [h]
theorem off_72 {l I : Addr} {ws : List Value} {nn : Nat} {T39 T72 oI : Obj} {rest : Led} (hM : MRest l ws nn T39 T72 rest) (hI : ∀ p ∈ (39, T39) :: (72, T72) :: rest, p.1 ≠ I) : ∀ q ∈ (I, oI) :: (39, T39) :: rest, q.1 ≠ 72 := by
  intro q hq
  rcases List.mem_cons.mp hq with rfl | hq
  · exact Ne.symm (hI _ (.tail _ (.head _)))
  · rcases List.mem_cons.mp hq with rfl | hq
    · exact (by decide : (39 : Nat) ≠ 72)
    · exact hM.off72 q hq
theorem mem_72 {extra rest : Led} {x q y z : Addr × Obj} (h : x ∈ extra ++ rest) : x ∈ y :: (extra ++ q :: z :: rest) := by
  rcases List.mem_append.mp h with h | h <;> simp [h]
theorem LamTab.tab {pos : Pos} {qual : Str} {T : Obj} {rest : Led} (h : LamTab pos qual T rest) : ∃ ps, T = tabObj ps := by
  rcases h with h | ⟨c', oc, vs, t, h1, h2, h3, h4⟩
  · exact ⟨_, h⟩
  · exact ⟨_, h1⟩
theorem minv_grown {h₀ h : Heap} {L l : Addr} {ws : List Value} {nn : Nat} {nw : Led} (hM : MInv l ws nn nw) (N : News h₀ L h nw) : GrownAll [(43, 39), (74, 72)] h := by
  obtain ⟨T39, T72, rest, rfl, hM⟩ := hM
  obtain ⟨p1, e1⟩ := hM.t39.tab
  obtain ⟨p2, e2⟩ := hM.t72.tab
  subst e1 e2
  exact ⟨GrownAt.of N (.head _), GrownAt.of N (.tail _ (.head _)), trivial⟩
end Mine

-- P2g
namespace Mine
theorem row_size {vs : List Value} {n : Nat} (h : vs.length = (digs n).length + 1) (hn : n < 1048576) : vs.toArray.size ≤ sizeLine := by
  have := digs_len n hn
  rw [sizeLine_eq, List.size_toArray]; omega
section
variable {prog : Program} {w : World} {A : Around} {h₀ : Heap} {L : Addr} {m : Str → Option Value} {env : Env} {elt : PySem.Expr} {x : Str} {scope : Scope} {cl : List (Str × Addr)} {s : Shared} {S : List (Addr × Obj) → Prop} {Fin : List Value → List (Addr × Obj) → Prop} {news : List (Addr × Obj)}
theorem comp_row {vs : List Value} {fs : List Nat} {rest : Led} (hvl : vs.length = fs.length + 1)
    (hrow : ∀ i, i ≤ fs.length → ∃ q t1 t2 t3, vs[i]? = some (.ref q) ∧ (q, tupO [.int ((lastv (fs.take i)).1 : Int) t1, .int ((lastv (fs.take i)).2.1 : Int) t2, .int ((lastv (fs.take i)).2.2 : Int) t3]) ∈ rest) (g : Nat × Nat × Nat → Int)
    (turn : ∀ i q t1 t2 t3 I oI C oC D m₂ ys h tk (E' : Value → Shared → Prop), (q, tupO [.int ((lastv (fs.take i)).1 : Int) t1, .int ((lastv (fs.take i)).2.1 : Int) t2, .int ((lastv (fs.take i)).2.2 : Int) t3]) ∈ rest → LCg.NsObj oC m₂ → m₂ x = some (.ref q) → Fr h₀ L h m → News h₀ L h ((I, oI) :: (C, oC) :: (D, LCg.lst ys) :: news) → LCg.Off3 I C D news → ((@Ne Nat I C) ∧ (@Ne Nat I D) ∧ (@Ne Nat C D)) →
      wpAny (model prog w) A (eval elt (compEnvC scope cl C env)) (LCg.CompEnd h₀ L m { s with heap := h, toks := tk } I oI C oC D (LCg.lst ys) S (fun y news' => KCfEl news (g (lastv (fs.take i))) y news')) E' { s with heap := h, toks := tk })
    (fin : ∀ ys, IntsAre ys ((List.range vs.length).map fun i => g (lastv (fs.take i))) → Fin ys news) : LCg.CompRest prog w A h₀ L m env elt x scope cl s S (fun i v => vs.toArray[i]? = some v) Fin vs.toArray.size 0 [] news := by
  refine comp_any (fun i => g (lastv (fs.take i))) ?_ fin
  intro i v I oI C oC D m₂ ys h tk E' hv hC hx F N off ne
  have hi : i < vs.length := (List.getElem?_eq_some_iff.mp hv).1
  obtain ⟨q, t1, t2, t3, hq, hm⟩ := hrow i (by omega)
  rw [hq] at hv
  obtain rfl := Option.some.inj hv
  exact turn i q t1 t2 t3 I oI C oC D m₂ ys h tk E' hm hC hx F N off ne
end
theorem row_last {vs : List Value} {fs : List Nat} {rest : Led} (hvl : vs.length = fs.length + 1)
    (hrow : ∀ i, i ≤ fs.length → ∃ q t1 t2 t3, vs[i]? = some (.ref q) ∧ (q, tupO [.int ((lastv (fs.take i)).1 : Int) t1, .int ((lastv (fs.take i)).2.1 : Int) t2, .int ((lastv (fs.take i)).2.2 : Int) t3]) ∈ rest) :
    ∃ q t1 t2 t3, vs[vs.length - 1]? = some (.ref q) ∧ (q, tupO [.int ((lastv fs).1 : Int) t1, .int ((lastv fs).2.1 : Int) t2, .int ((lastv fs).2.2 : Int) t3]) ∈ rest := by
  obtain ⟨q, t1, t2, t3, h1, h2⟩ := hrow fs.length (Nat.le_refl _)
  rw [List.take_length] at h2
  exact ⟨q, t1, t2, t3, by rw [hvl]; exact h1, h2⟩
section
variable {prog : Program} {w : World} {A : Around} {E : Value → Shared → Prop} {s : Shared} {h₀ : Heap} {L : Addr} {m : Str → Option Value} {news : Led}
theorem item_tup3 {value slice : PySem.Expr} {l : Addr} {vs : List Value} {k : Int} {u : Tok} {v : Value} {Q : Value → Shared → Prop} (N : News h₀ L s.heap news) (hl : (l, tupO vs) ∈ news) (h0 : 0 ≤ k) (hk : k.toNat < vs.length) (hhi : k < 2 ^ 62) (hx : vs[k.toNat]? = some v) (h : Q v s)
    (hs : subscripted slice false (.ref l) (.int k u) = operate [.ref l, .int k u] (getItem (.ref l) (.int k u)) := by with_unfolding_all rfl) :
    wpAny (model prog w) A (subscriptTail value slice (.ref l) (.int k u)) Q E s :=
  have ht : IsTup s.heap l vs.toArray := News.isTup N hl
  tail_any ht.typeIs slot_tuple_getitem.lookup (getItem_tuple ht (by omega) (by omega) (seqIndex_of h0 (by rw [List.size_toArray]; omega)) (x := v) (by simpa using hx) h) hs
theorem due_eq {n : Nat} (hn : n < 1048576) : ((lastv (digs n)).1 : Int) = (dsum n : Nat) ∧ ((lastv (digs n)).2.1 : Int) = (dord n : Nat) ∧ ((lastv (digs n)).2.2 : Int) = ((ones n : Nat) : Int) - (ones (dsum n) : Nat) := by
  obtain ⟨h1, h2, h3⟩ := lastv_due n hn
  rw [h1, h2]
  refine ⟨rfl, rfl, ?_⟩
  omega
end
end Mine

-- P2h
namespace Mine
theorem iturn_M {h₀ : Heap} {L I : Addr} {oI : Obj} {s : Shared} {x : Str} {stored : List Str} {m₀ m' : Str → Option Value} {Q : Flow → Shared → Prop} {l : Addr} {ws : List Value} {nn : Nat} {T39 T72 : Obj} {rest big : Led} {h' : Heap} {tk : Nat}
    (hM : MRest l ws nn T39 T72 rest) (h1 : 39 ≠ I) (h2 : 72 ≠ I) (h3 : ∀ q ∈ rest, q.1 ≠ I) (F : Fr h₀ L h' m') (N : News h₀ L h' big) (hs : ∀ p ∈ (I, oI) :: (39, T39) :: (72, T72) :: rest, p ∈ big)
    (hr : ∀ z, z ≠ x → (∀ p ∈ ([] : List (Str × Value)), z ≠ p.1) → stored.contains z = false → m' z = m₀ z) :
    ITurn h₀ L I oI s x (fun _ : Unit => []) stored m₀ (fun _ nx => MInv l ws nn nx) Q .next { s with heap := h', toks := tk } :=
  iturn_next () ((39, T39) :: (72, T72) :: rest) F (News.sub N hs) (List.forall_mem_cons.mpr ⟨h1, List.forall_mem_cons.mpr ⟨h2, h3⟩⟩) (fun _ h => nomatch h) hr ⟨_, _, _, rfl, hM⟩
theorem comp_end {h₀ : Heap} {L I C D ax : Addr} {m : Str → Option Value} {s₁ : Shared} {oI oC oD : Obj} {vs : List Value} {nn : Nat} {news : Led} {r : Int} {t : Tok} {h' : Heap} {tk : Nat}
    (F : Fr h₀ L h' m) (N : News h₀ L h' ((I, oI) :: (C, oC) :: (D, oD) :: news)) (off : LCg.Off3 I C D news) (hm : (ax, listOf vs.toArray nn) ∈ news) :
    LCg.CompEnd h₀ L m s₁ I oI C oC D oD (LCg.SrcAt h₀ ax vs.toArray) (fun y news' => KCfEl news r y news') (.int r t) { s₁ with heap := h', toks := tk } :=
  LCg.CompEnd.intro F N news (fun _ h => h) off (.inr ⟨_, hm, rfl, _, rfl⟩) ⟨rfl, _, rfl⟩
end Mine

open Mine
local macro_rules | `(tactic| walk_at "use int2ap") => `(tactic| (k_here; with_unfolding_all refine' FnSpec.use (int2ap_to _ _ _ _ ?km ?kn) ?k1 ?k2 ?k3 ?k4 ?k5 ?kK ?kd ?ku ?_; (case k1 => k_asm); (case k2 => k_asm); (case k3 => k_asm); (case k4 => k_asm); (case k5 => k_asm); (case kK => first | exact rfl | assumption); (case kd => ktr_room); (case ku => ktr_units); (case km => (first | exact na1 _ | exact na2 _)); (case kn => (first | exact lt100a (by assumption) | exact orders_lt (digs_sum_le _ (by assumption) _)))))
local macro_rules | `(tactic| walk_at "use more") => `(tactic| (k_here; with_unfolding_all refine' FnSpec.use (more_use ?h1 ?h2 ?h3 ?h4 ?h5 ?h6 ?h7) ?k1 ?k2 ?k3 ?k4 ?k5 ?kK ?kd ?ku ?_; (case k1 => k_asm); (case k2 => k_asm); (case k3 => k_asm); (case k4 => k_asm); (case k5 => k_asm); (case kK => first | exact rfl | assumption); (case kd => ktr_room); (case ku => ktr_units); (case h3 => (assumption)); (case h1 => (assumption)); (case h2 => (assumption)); (case h7 => (assumption)); (case h4 => (exact lastv_sum (by assumption))); (case h5 => (assumption)); (case h6 => (omega))))
local macro_rules | `(tactic| walk_at "use row72") => `(tactic| (k_here; with_unfolding_all refine' FnSpec.use (row72_use _ ?h1 ?h2 ?h3 ?h4 ?h5 ?h6 ?h7 ?h8 ?h9 ?h10 ?h11) ?k1 ?k2 ?k3 ?k4 ?k5 ?kK ?kd ?ku ?_; (case k1 => k_asm); (case k2 => k_asm); (case k3 => k_asm); (case k4 => k_asm); (case k5 => k_asm); (case kK => first | exact rfl | assumption); (case kd => ktr_room); (case ku => ktr_units); (case h1 => (assumption)); (case h2 => (assumption)); (case h3 => (assumption)); (case h4 => (assumption)); (case h5 => (assumption)); (case h6 => (assumption)); (case h7 => (assumption)); (case h8 => (assumption)); (case h9 => (assumption)); (case h10 => (assumption)); (case h11 => (assumption))))
local macro_rules | `(tactic| walk_at "use halv") => `(tactic| (k_here; with_unfolding_all refine' FnSpec.use (halv_spec _ _ _ ?h1 ?h2) ?k1 ?k2 ?k3 ?k4 ?k5 ?kK ?kd ?ku ?_; (case k1 => k_asm); (case k2 => k_asm); (case k3 => k_asm); (case k4 => k_asm); (case k5 => k_asm); (case kK => first | exact rfl | assumption); (case kd => ktr_room); (case ku => ktr_units); (case h1 => (exact orders_pos _)); (case h2 => (exact orders_lt (digs_sum_le _ (by assumption) _)))))
local macro_rules | `(tactic| walk_at "use due") => `(tactic| (k_here; with_unfolding_all refine' FnSpec.use (due_spec _ _ _ ?h1) ?k1 ?k2 ?k3 ?k4 ?k5 ?kK ?kd ?ku ?_; (case k1 => k_asm); (case k2 => k_asm); (case k3 => k_asm); (case k4 => k_asm); (case k5 => k_asm); (case kK => first | exact rfl | assumption); (case kd => ktr_room); (case ku => ktr_units); (case h1 => (assumption))))
local macro_rules | `(tactic| walk_at "enter lam") => `(tactic| (with_unfolding_all refine' kla_code ?k1 ?k2 ?k3 ?k4 ?k5 ?kA ?kF ?kK ?k6 ?k7 ?k8 ?k9 ?kB ?_ ?c2 ?c3 ?c4 ?c5; (case kA => exact rfl); (case kF => exact rfl); (case kK => assumption); (case k1 => k_asm); (case k2 => k_asm); (case k3 => k_asm); (case k4 => k_asm); (case k5 => k_asm); (case k6 => exact List.mem_cons_of_mem _ (by assumption)); (case k7 => exact codeRec_news (by k_asm) (List.mem_cons_of_mem _ (by assumption)) (by assumption) (by assumption)); (case k8 => ktr_room); (case k9 => exact rfl); (case c5 => decide); (case kB => exact locs rfl); (case c2 => exact rfl); (case c3 => exact rfl); (case c4 => exact rfl); k_whole; intro g' L' h' FG' F' N' B' X' T'; (try dsimp only); (try k_lift B'); (try k_fold)))
local macro_rules | `(tactic| walk_at "binaryOp Mod int int") => `(tactic| (k_here; refine mod_any (by decide) ?_; intro N' t' k' hN'))
local macro_rules | `(tactic| walk_at "call ref") => `(tactic| ((with_reducible show wpAny _ _ (call (Value.ref 30) _) _ _ _); (
      walk_at "use row72"
      intro r' n' h' tk' F' N' hR'
      unfold Row72 at hR'
      obtain ⟨lr', T39', rest', hr1', hr2', hM', hrow', hI', hi1', hi2'⟩ := hR'
      subst hr1' hr2'
      unfold RowAt at hrow'
      obtain ⟨vs', nn', hl', hvl', hrow'⟩ := hrow'
      obtain ⟨q', t1', t2', t3', hq', hqm'⟩ := row_last hvl' hrow')))
local macro_rules | `(tactic| walk_at "use lam72") => `(tactic| ((
      k_here; (with_reducible rename Fr _ _ _ _ => F'); (with_reducible rename News _ _ _ _ => N')
      with_unfolding_all refine' lam_any F' (News.sub N' swap_72) ?T ?C ?cd ?hP ?hs ?hT ?hdef ?hcl ?_
      case T => k_asm
      case cd => exact rfl
      case C => with_unfolding_all assumption
      case hP => exact off_72 (by assumption) (by assumption)
      case hT => exact MRest.t72 (by assumption)
      case hs => exact fun _ h => List.mem_cons_of_mem _ (List.mem_cons_of_mem _ h)
      case hdef => exact rfl
      case hcl => exact rfl
      intro f' c' oc' vs' t' ctv' T' extra' h' tk' F' N' hx' hf' hlt' hTb' hc' hd1' hd2'
      (rename Top topProg _ _ _ _ _ => lT'); (rename Frag.In _ _ => lX')
      refine have72 lX' lT' N' (mem_72 hc') ?lam ?rest
      case' lam =>
        unfold Lam72 FnSpec
        intro T39 rest restT restR fs l k tk hm1 hm2 hne hsT hsR hT hrow hsum hlen hk0
        obtain ⟨vs, nn, hl, hvl, hrow⟩ := hrow
        obtain ⟨q, t1, t2, t3, hq, hqm⟩ := hrow fs.length (Nat.le_refl _)
        rw [List.take_length] at hqm
        have hqm2 := hsR _ hqm
        have hl2 := hsR _ hl
        have hq2 : vs[vs.length - 1]? = some (.ref q) := by rw [hvl]; exact hq
        clear F' N'
        intro dp un gd cn cs a ccd cl outer A₀ base h₀ L m s Q E B F X N T hk hd' hu hret
        refine wpAny_call ?_
        walk_at "enter lam"
      case' rest =>
        intro hlam)))
local macro_rules | `(tactic| walk_at "eval Lambda") => `(tactic| walk_at "use lam72")
local macro_rules | `(tactic| walk_at "eval ListComp") => `(tactic| (k_here; k_dflt (refine LCg.ListComp_U (F₀ := by k_asm) (by with_unfolding_all rfl) (by decide) (by rfl) (by decide) (by rfl) ?_)))
local macro_rules | `(tactic| walk_at "use comp1") => `(tactic| (k_here; (with_reducible show LCg.CompSrc _ _ _ _ _ _ _ (PySem.Expr.Call _ _ _ _) _ _ _ _ _ _); (k_dflt (refine' LCg.CompSrc.ledger ?hh ?kF ?kN ?km ?ks ?_; (case hh => with_unfolding_all exact rfl); (case kF => k_asm); (case kN => k_asm); (case km => repeat (first | assumption | exact List.mem_cons_self | exact List.mem_append_right _ (by assumption) | refine List.mem_cons_of_mem _ ?_)); (case ks => exact row_size (by assumption) (by assumption)); intro g'; refine comp_row (by assumption) (by assumption) (fun P => ((val2 P.2.1 : Nat) : Int)) ?turn ?fin); (case' turn => intro i' q' t1' t2' t3' I' oI' C' oC' D' m' ys' h' tk' E' hm' hC' hx' F' N' off' ne'); (case' fin => intro ys' hI'))))
local macro_rules | `(tactic| walk_at "use comp2") => `(tactic| (k_here; (with_reducible show LCg.CompSrc _ _ _ _ _ _ _ (PySem.Expr.Subscript _ _ _) _ _ _ _ _ _); (k_dflt (refine' LCg.CompSrc.ledger ?hh ?kF ?kN ?km ?ks ?_; (case hh => with_unfolding_all exact rfl); (case kF => k_asm); (case kN => k_asm); (case km => repeat (first | assumption | exact List.mem_cons_self | exact List.mem_append_right _ (by assumption) | refine List.mem_cons_of_mem _ ?_)); (case ks => exact row_size (by assumption) (by assumption)); intro g'; refine comp_row (by assumption) (by assumption) (fun P => ((P.2.2 : Nat) : Int)) ?turn ?fin); (case' turn => intro i' q' t1' t2' t3' I' oI' C' oC' D' m' ys' h' tk' E' hm' hC' hx' F' N' off' ne'); (case' fin => intro ys' hI'))))
local macro_rules | `(tactic| walk_at "CompSrc") => `(tactic| first | walk_at "use comp1" | walk_at "use comp2")
local macro_rules | `(tactic| walk_at "KCfEl") => `(tactic| exact ⟨rfl, _, rfl⟩)
local macro_rules | `(tactic| walk_at "use ne_rows") => `(tactic| (k_here; refine' ne_rows ?hN ?hm1 ?hm2 ?hi ?hj ?hu ?_; (case hN => k_asm); (case hm1 => repeat (first | assumption | exact List.mem_cons_self | exact List.mem_append_right _ (by assumption) | refine List.mem_cons_of_mem _ ?_)); (case hm2 => repeat (first | assumption | exact List.mem_cons_self | exact List.mem_append_right _ (by assumption) | refine List.mem_cons_of_mem _ ?_)); (case hi => assumption); (case hj => assumption); (case hu => ke_room)))
local macro_rules | `(tactic| walk_at "use ne_due") => `(tactic| (k_here; (refine' ne_due ?hN ?hm1 ?hm2 ?e1 ?e2 ?e3 ?hu ?_; (case hN => k_asm); (case hm1 => repeat (first | assumption | exact List.mem_cons_self | exact List.mem_append_right _ (by assumption) | refine List.mem_cons_of_mem _ ?_)); (case hm2 => repeat (first | assumption | exact List.mem_cons_self | exact List.mem_append_right _ (by assumption) | refine List.mem_cons_of_mem _ ?_)); (case e1 => exact ((due_eq (by assumption)).1).trans (Eq.symm (by assumption))); (case e2 => exact ((due_eq (by assumption)).2.1).trans (Eq.symm (by assumption))); (case e3 => exact ((due_eq (by assumption)).2.2).trans (Eq.symm (by assumption))); (case hu => ke_room))))
local macro_rules | `(tactic| walk_at "compareOp NotEq ref ref") => `(tactic| first | walk_at "use ne_rows" | walk_at "use ne_due")
local macro_rules | `(tactic| walk_at "use tup3") => `(tactic| (k_here; (refine' item_tup3 ?hN ?hm ?h1 ?h2 ?h3 ?h4 ?_ ?hs; (case hN => k_asm); (case hm => repeat (first | assumption | exact List.mem_cons_self | exact List.mem_append_right _ (by assumption) | refine List.mem_cons_of_mem _ ?_)); (case h1 => decide); (case h2 => exact Nat.le_of_ble_eq_true rfl); (case h3 => decide); (case h4 => exact rfl); (case hs => with_unfolding_all rfl))))
local macro_rules | `(tactic| walk_at "subscriptTail Name Constant ref int") => `(tactic| walk_at "use tup3")
local macro_rules | `(tactic| walk_at "lam end") => `(tactic| ((refine' lam72_end ?hr ?hF ?hN ?hT ?hv ?hrow ?hx ?hD ?hl; (case hr => assumption); (case hN => assumption); (case hF => k_asm); (case hT => assumption); (case hrow => assumption); (case hv => assumption); (case hx => assumption); (case hD => assumption); (case hl => assumption))))
local macro_rules | `(tactic| walk_at "comp end") => `(tactic| ((refine' comp_end ?hF ?hN ?hoff ?hm; (case hN => assumption); (case hF => assumption); (case hoff => assumption); (case hm => repeat (first | assumption | exact List.mem_cons_self | exact List.mem_append_right _ (by assumption) | refine List.mem_cons_of_mem _ ?_)))))
local macro_rules | `(tactic| walk_at "CompEnd") => `(tactic| walk_at "comp end")
local macro_rules | `(tactic| walk_at "ITurn") => `(tactic| walk_at "turn end")
local macro_rules | `(tactic| walk_at "GrownAll") => `(tactic| exact minv_grown (by assumption) (by k_asm))
local macro_rules | `(tactic| walk_at "turn end") => `(tactic| (refine' iturn_M ?hM ?h1 ?h2 ?h3 ?hF ?hN ?hs ?hr; (case hM => assumption); (case h1 => assumption); (case h2 => assumption); (case h3 => assumption); (case hN => assumption); (case hF => assumption); (case hs => repeat (first | exact fun _ h => h | refine sub_cons ?_)); (case hr => (intro z h1 h2 h3; (simp only [List.contains_cons, List.contains_nil, Bool.or_false, Bool.or_eq_false_iff, beq_eq_false_iff_ne, ne_eq] at h3); simp [h1, h3]))))
set_option maxRecDepth 100000 in
set_option maxHeartbeats 8000000 in
theorem PySem.Challenge.cw_nq0005_02_holds : PySem.Challenge.rw_nq0005_02.Holds := by
  refine hd ?_
  w_strict (
    k_go0
    (all_goals try k_fold)
    k_with_none
    k_with "exec For Name BinOp" => (k_here; (rename Fr _ _ _ _ => lF'); (with_unfolding_all refine' For_invVF lF' ?k1 ?k2 ?_; (case k1 => exact rfl); (case k2 => exact rfl); k_whole))
    k_with "pyIter ref" => (
      k_here
      (rename Fr _ _ _ _ => lF'); (rename News _ _ _ _ => lN'); (rename IntsAre _ _ => iA')
      with_unfolding_all refine' loop_listG (MInv _ _ _) (minv0 ?m1 ?m2 ?m3) [Str.ofString "n", Str.ofString "word", Str.ofString "row"] ?hh lF' (News.sub lN' ?hsub) ?hl ?turn ?done
      case hsub => exact perm5
      case m1 => assumption
      case m2 => assumption
      case m3 => assumption
      case hh => with_unfolding_all exact rfl
      case hl => exact fun _ h => minv_src h
      case' turn =>
        intro nw I i v u' h' tk' oI hG hI hv F' N'
        clear lF' lN'
        obtain ⟨x, tx, rfl⟩ := ints_some iA' hv
        unfold MInv at hG
        obtain ⟨T39, T72, rest, rfl, hM⟩ := hG
      case' done =>
        intro nw u' h' tk' hMI' F' N'
        clear lF' lN')
    k_with "subscriptTail Name UnaryOp" => (k_here; refine item_last (by k_asm) (by repeat (first | assumption | exact List.mem_cons_self | exact List.mem_append_right _ (by assumption) | refine List.mem_cons_of_mem _ ?_)) (by omega) (by assumption) ?_)
    k_with "binaryOp Add ref ref" => (k_here; with_unfolding_all refine add1_end (by k_asm) (by k_asm) (by repeat (first | assumption | exact List.mem_cons_self | exact List.mem_append_right _ (by assumption) | refine List.mem_cons_of_mem _ ?_)) (by repeat (first | assumption | exact List.mem_cons_self | exact List.mem_append_right _ (by assumption) | refine List.mem_cons_of_mem _ ?_)) (by omega) ?_; intro D' h' F' N' l9')
    k_with "call ref" => ((with_reducible show wpAny _ _ (call (Value.ref 21) _) _ _ _); (
      walk_at "use int2ap"
      intro r' n' h' tk' F' N' hR'
      obtain ⟨⟨t', rfl⟩, rfl⟩ := hR'))
    k_with "call ref" => ((with_reducible show wpAny _ _ (call (Value.ref 51) _) _ _ _); (
      walk_at "use halv"
      intro r' n' h' tk' F' N' hR'
      obtain ⟨⟨t', rfl⟩, rfl⟩ := hR'))
    k_with "call ref" => ((with_reducible show wpAny _ _ (call (Value.ref 70) _) _ _ _); (
      walk_at "use due"
      intro r' n' h' tk' F' N' hR'
      obtain ⟨T', a', t1', b', t2', c', t3', rfl, rfl, ha', hb', hc'⟩ := hR'))
    k_with "call ref" => ((with_reducible show wpAny _ _ (call (Value.ref 44) _) _ _ _); (
      walk_at "use more"
      intro r' n' h' tk' F' N' hR'
      unfold More at hR'
      obtain ⟨D', T', extra', t1', t2', t3', rfl, rfl, hT', hx', hD'⟩ := hR'))
    k_steps
    all_goals walk_at "lam end")
#print axioms PySem.Challenge.cw_nq0005_02_holds

