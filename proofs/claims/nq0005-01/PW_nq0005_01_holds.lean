import PyProof.Rows.All
import Wide.All
import OpenK.AllK
import Wide.FinOn
import Lean
import PySem.Challenge.RW_nq0005_01
open PySem PySem.W PyProof.Rows
set_option Elab.async false

-- Base
namespace Mine
open PySem.Calls PySem.Spec
abbrev Led := List (Addr × Obj)
def FnSpec (prog : Program) (w : World) (K : Frag) (p : Program) (loose : List Str) (mean : ExcName → Option Value) (mg mb : Str → Option Value) (f : Value) (args : List Value) (d u : Nat) (news : Led) (R : Value → Led → Prop) : Prop :=
  ∀ (dp un : Nat) (gd : Option (List Code)) (cn : Str) (cs : Scope) (a : Addr) (ccd : Value) (cl : List (Str × Addr)) (outer : List Env) (A₀ : Around) (base h₀ : Heap) (L : Addr) (m : Str → Option Value) (s : Shared) (Q E : Value → Shared → Prop),
    Below A₀ base outer h₀ → Fr h₀ L s.heap m → K.In h₀ → News h₀ L s.heap news → Top p loose mean mg mb h₀ → cs.kind = .function → dp + d < recursionLimit → un + u < cLine →
    (∀ r news' h' tk', Fr h₀ L h' m → News h₀ L h' news' → R r news' → Q r { s with heap := h', toks := tk' }) →
    wpAny (model prog w) (ktrTop dp un gd cn cs L a ccd cl outer) (call f args) Q E s
theorem News.sub {h₀ h : Heap} {L : Addr} {news news' : Led} (N : News h₀ L h news') (hs : ∀ p ∈ news, p ∈ news') : News h₀ L h news := fun p hp => N p (hs p hp)
theorem news_swap2 {h₀ h : Heap} {L : Addr} {more : Led} {a b : Addr × Obj} (N : News h₀ L h (more ++ [a, b])) : News h₀ L h (a :: b :: more) := News.sub N fun p hp => by
  rcases List.mem_cons.mp hp with rfl | hp
  · simp
  · rcases List.mem_cons.mp hp with rfl | hp
    · simp
    · exact List.mem_append_left _ hp
theorem ord2 {more : Led} {a b : Addr × Obj} (h : ∀ p ∈ more, ∀ q ∈ [a, b], q.1 < p.1) : (∀ p ∈ more, p.1 ≠ a.1) ∧ (∀ p ∈ more, p.1 ≠ b.1) := ⟨fun p hp => Nat.ne_of_gt (h p hp a (by simp)), fun p hp => Nat.ne_of_gt (h p hp b (by simp))⟩
theorem sub_cons {l l' : Led} {q : Addr × Obj} (h : ∀ p ∈ l, p ∈ l') : ∀ p ∈ l, p ∈ q :: l' := fun p hp => .tail _ (h p hp)
theorem FnSpec.mono {prog : Program} {w : World} {K : Frag} {p : Program} {loose : List Str} {mean : ExcName → Option Value} {mg mb : Str → Option Value} {f : Value} {args : List Value} {d u d' u' : Nat} {news news₁ : Led} {R R' : Value → Led → Prop}
    (h : FnSpec prog w K p loose mean mg mb f args d u news R) (hn : ∀ q ∈ news, q ∈ news₁) (hd : d ≤ d') (hu : u ≤ u') (hr : ∀ r n, R r n → ∃ n', (∀ q ∈ n', q ∈ n) ∧ R' r n') : FnSpec prog w K p loose mean mg mb f args d' u' news₁ R' := by
  intro dp un gd cn cs a ccd cl outer A₀ base h₀ L m s Q E B F X N T hk hd' hu' hret
  refine h dp un gd cn cs a ccd cl outer A₀ base h₀ L m s Q E B F X (News.sub N hn) T hk (by omega) (by omega) fun r n h' tk' F' N' hR => ?_
  obtain ⟨n', hs, hR'⟩ := hr r n hR
  exact hret r n' h' tk' F' (News.sub N' hs) hR'
theorem FnSpec.use {prog : Program} {w : World} {K : Frag} {p : Program} {loose : List Str} {mean : ExcName → Option Value} {mg mb : Str → Option Value} {f : Value} {args : List Value} {d u : Nat} {news : Led} {R : Value → Led → Prop}
    {dp un : Nat} {gd : Option (List Code)} {cn : Str} {cs : Scope} {a : Addr} {ccd : Value} {cl : List (Str × Addr)} {outer : List Env} {A₀ : Around} {base h₀ : Heap} {L : Addr} {m : Str → Option Value} {s : Shared} {Q E : Value → Shared → Prop}
    (S : FnSpec prog w K p loose mean mg mb f args d u news R) (B : Below A₀ base outer h₀) (F : Fr h₀ L s.heap m) (X : K.In h₀) (N : News h₀ L s.heap news) (T : Top p loose mean mg mb h₀) (hk : cs.kind = .function) (hd : dp + d < recursionLimit) (hu : un + u < cLine)
    (ret : ∀ r news' h' tk', Fr h₀ L h' m → News h₀ L h' news' → R r news' → Q r { s with heap := h', toks := tk' }) :
    wpAny (model prog w) (ktrTop dp un gd cn cs L a ccd cl outer) (call f args) Q E s := S _ _ _ _ _ _ _ _ _ _ _ _ _ _ _ _ _ B F X N T hk hd hu ret
def ITurn {σ : Type} (h₀ : Heap) (L I : Addr) (oI : Obj) (s : Shared) (x : Str) (ps : σ → List (Str × Value)) (stored : List Str) (m₀ : Str → Option Value) (Inv' : σ → Led → Prop) (Q : Flow → Shared → Prop) (f : Flow) (s₂ : Shared) : Prop :=
  match f with
  | .ret v => Q (.ret v) s₂
  | .brk => Q .next s₂
  | _ => ∃ (c : σ) (h' : Heap) (tk : Nat) (m' : Str → Option Value) (nx : Led), s₂ = { s with heap := h', toks := tk } ∧ Fr h₀ L h' m' ∧ News h₀ L h' ((I, oI) :: nx) ∧ (∀ p ∈ nx, p.1 ≠ I) ∧ (∀ p ∈ ps c, m' p.1 = some p.2) ∧ (∀ z, z ≠ x → (∀ p ∈ ps c, z ≠ p.1) → stored.contains z = false → m' z = m₀ z) ∧ Inv' c nx
section
variable {prog : Program} {w : World} {A : Around} {E : Value → Shared → Prop} {s : Shared} {env : Env} {h₀ : Heap} {x : Str} {body : List Stmt} {Q : Flow → Shared → Prop}
theorem iturn_next {σ : Type} {L I : Addr} {oI : Obj} {ps : σ → List (Str × Value)} {stored : List Str} {m₀ m' : Str → Option Value} {Inv' : σ → Led → Prop} {h' : Heap} {tk : Nat} (c : σ) (nx : Led)
    (F : Fr h₀ L h' m') (N : News h₀ L h' ((I, oI) :: nx)) (ha : ∀ p ∈ nx, p.1 ≠ I) (hk : ∀ p ∈ ps c, m' p.1 = some p.2) (hr : ∀ z, z ≠ x → (∀ p ∈ ps c, z ≠ p.1) → stored.contains z = false → m' z = m₀ z) (hi : Inv' c nx) :
    ITurn h₀ L I oI s x ps stored m₀ Inv' Q .next { s with heap := h', toks := tk } := ⟨c, h', tk, m', nx, rfl, F, N, ha, hk, hr, hi⟩
theorem iloop {σ : Type} {I : Addr} {oI₀ : Obj} {fp : List Addr} {n : Nat} {P : Nat → Value → Prop} {St : Nat → Heap → Prop} {m₀ : Str → Option Value} {news : Led} (ps : σ → List (Str × Value)) (stored : List Str) (Inv : Nat → σ → Led → Prop) (c₀ : σ)
    (W : Walks prog w A I fp [I] n P St) (hLf : env.locals ∉ fp) (hfp : ∀ a ∈ fp, a = I ∨ (∃ o, h₀.get? a = some o) ∨ (∃ o, ∀ i c nx, Inv i c nx → (a, o) ∈ nx)) (hst : St 0 s.heap)
    (F : Fr h₀ env.locals s.heap m₀) (N : News h₀ env.locals s.heap ((I, oI₀) :: news)) (hnI : ∀ p ∈ news, p.1 ≠ I) (hk : ∀ p ∈ ps c₀, m₀ p.1 = some p.2) (h0 : Inv 0 c₀ news)
    (hIfp : I ∈ fp) (hob : ∀ i h, St i h → ∃ o, h.get? I = some o)
    (turn : ∀ i c v nx (u : Str → Option Value) h tk oI, i < n → P i v → Inv i c nx → (∀ p ∈ nx, p.1 ≠ I) → Fr h₀ env.locals h (fun y => if y = x then some v else kstB (fun z => if stored.contains z then u z else m₀ z) (ps c) y) → News h₀ env.locals h ((I, oI) :: nx) →
      wpAny (model prog w) A (execs body env) (ITurn h₀ env.locals I oI { s with heap := h, toks := tk } x ps stored m₀ (Inv (i + 1)) Q) E { s with heap := h, toks := tk })
    (done : ∀ c nx (u : Str → Option Value) h tk, Inv n c nx → (∀ p ∈ nx, p.1 ≠ I) → Fr h₀ env.locals h (fun y => if y = x then u y else kstB (fun z => if stored.contains z then u z else m₀ z) (ps c) y) → News h₀ env.locals h nx → Q .next { s with heap := h, toks := tk }) :
    LoopAtV prog w A h₀ env x body Q E (.ref I) s := by
  have hI0 : h₀.get? I = none := (N _ (.head _)).2.2
  refine ⟨I, fp, [I], n, P, St, m₀, news, (fun i m nx => ∃ c : σ, (∀ p ∈ ps c, m p.1 = some p.2) ∧ (∀ z, z ≠ x → (∀ p ∈ ps c, z ≠ p.1) → stored.contains z = false → m z = m₀ z) ∧ Inv i c nx), rfl, W, hLf,
    (fun b hb => by rw [List.mem_singleton.mp hb]; exact hI0), (fun p hp hq => hnI p hp (List.mem_singleton.mp hq)), hst, F, (fun p hp => N p (.tail _ hp)), ⟨c₀, hk, fun _ _ _ _ => rfl, h0⟩, ?_, ?_⟩
  · rintro i v m₁ nx s₁ own ⟨hh, tk, rfl⟩ hin hP ⟨c, h1, h2, hInv⟩ hoff hown hget hmem hst' F₁ N₁
    obtain ⟨oI, hoI⟩ : ∃ oI, hh.get? I = some oI := hob _ _ hst'
    have hIown : (I, oI) ∈ own := hmem I hIfp hI0 oI hoI
    have N₂ : News h₀ env.locals hh ((I, oI) :: nx) := fun p hp => by
      rcases List.mem_cons.mp hp with rfl | hp
      · exact N₁ _ (List.mem_append_left _ hIown)
      · exact N₁ _ (List.mem_append_right _ hp)
    refine wpAny_mono (turn i c v nx m₁ hh tk oI hin hP hInv (fun p hp hq => hoff p hp (List.mem_singleton.mpr hq)) (kst_fr h1 h2 F₁) N₂) (fun f s₂ q => ?_) fun _ _ e => e
    have fin : (∃ (c : σ) (h' : Heap) (tk' : Nat) (m' : Str → Option Value) (nx : Led), s₂ = { ({ s with heap := hh, toks := tk } : Shared) with heap := h', toks := tk' } ∧ Fr h₀ env.locals h' m' ∧ News h₀ env.locals h' ((I, oI) :: nx) ∧ (∀ p ∈ nx, p.1 ≠ I) ∧ (∀ p ∈ ps c, m' p.1 = some p.2) ∧ (∀ z, z ≠ x → (∀ p ∈ ps c, z ≠ p.1) → stored.contains z = false → m' z = m₀ z) ∧ Inv (i + 1) c nx) →
        LoopStepU h₀ env.locals [I] own (fun m nx => ∃ c : σ, (∀ p ∈ ps c, m p.1 = some p.2) ∧ (∀ z, z ≠ x → (∀ p ∈ ps c, z ≠ p.1) → stored.contains z = false → m z = m₀ z) ∧ Inv (i + 1) c nx) { s with heap := hh, toks := tk } .next s₂ := by
      rintro ⟨c', h', tk', m', nx', rfl, F', N', ha', hk', hr', hi'⟩
      refine ⟨rfl, h', tk', m', nx', rfl, F', fun p hp => ?_, fun p hp hq => ha' p hp (List.mem_singleton.mp hq), c', hk', hr', hi'⟩
      rcases List.mem_append.mp hp with hp | hp
      · have hpg := hget p hp
        rcases hfp p.1 (hown p hp) with e | ⟨o, ho⟩ | ⟨o, ho⟩
        · have : p = (I, oI) := by
            rw [e] at hpg
            exact Prod.ext e (Option.some.inj (hpg.symm.trans hoI))
          rw [this]; exact N' _ (.head _)
        · have := (N₁ p (List.mem_append_left _ hp)).2.2; rw [ho] at this; cases this
        · have h3 := (N₁ _ (List.mem_append_right _ (ho _ _ _ hInv))).1
          have : p = (p.1, o) := Prod.ext rfl (Option.some.inj (hpg.symm.trans h3))
          rw [this]; exact N' _ (.tail _ (ho _ _ _ hi'))
      · exact N' _ (.tail _ hp)
    cases f with
    | ret v => exact .ret q
    | brk => exact .brk q
    | next => exact .next (fin q)
    | cont => exact .cont (fin q)
  · rintro h' tk m' nx F' N' hoff ⟨c, h1, h2, hInv⟩
    exact done c nx m' h' tk hInv (fun p hp hq => hoff p hp (List.mem_singleton.mpr hq)) (kst_frOut h1 h2 F') N'
end
abbrev bytesIt (b : Array UInt8) (t : Tok) (i : Nat) : Obj := { cls := .type "bytes_iterator", data := .fields #[.bytes b t, .int i 0] }
abbrev listIt (l : Addr) (i : Nat) : Obj := { cls := .type "list_iterator", data := .fields #[.ref l, .int i 0] }
section
variable {prog : Program} {w : World} {A : Around} {E : Value → Shared → Prop} {s : Shared} {env : Env} {h₀ : Heap} {L : Addr} {m : Str → Option Value} {news : Led}
theorem iter_any {x : Value} {Q : Value → Shared → Prop} (h : wpAny (model prog w) A.in1 (pyIter x) Q E s) : wpAny (model prog w) A (call (.builtin "iter") [x]) Q E s := by
  refine call_function_entry (by decide +kernel) (by decide +kernel) kdk_entry_iter (kdk_args_iter _) ?_
  unfold Builtin.«iter»
  refine wpAny_bind (m := someArgs "iter" 1 2 _) (wpAny_of_eq (a := [x]) (by first | rfl | kernel_rfl!) ?_)
  show wpAny _ _ (pyIter x >>= _) _ _ _
  exact wpAny_bind (wpAny_mono h (fun r s' hq => wpAny_pure ⟨_, rfl, hq⟩) fun _ _ e => e)
theorem iter_bytes {b : Array UInt8} {t : Tok} {Q : Value → Shared → Prop} (F : Fr h₀ L s.heap m) (N : News h₀ L s.heap news)
    (h : ∀ I h', Fr h₀ L h' m → News h₀ L h' ((I, bytesIt b t 0) :: news) → (∀ p ∈ news, p.1 < I) → Q (.ref I) { s with heap := h' }) : wpAny (model prog w) A (call (.builtin "iter") [.bytes b t]) Q E s :=
  iter_any (KBw.pyIter_bytes (h _ _ (F.push _) (News.push F N _ rfl) fun q hq => Heap.lt_size (N q hq).1))
theorem is_other_y {x y : Addr} {ox oy : Obj} {Q : Value → Shared → Prop} (hxy : x ≠ y) (hx : s.heap.get? x = some ox) (hy : s.heap.get? y = some oy) (hnt : oy.cls ≠ .type "tuple")
    (h : Q (.bool false) s) : wpAny (model prog w) A (compareOp .Is (.ref x) (.ref y)) Q E s := by
  show wpAny _ A (do return .bool (← isSame (.ref x) (.ref y))) Q E s
  refine wpAny_bind ?_
  show wpAny _ A (if (x == y) = true then pure true else _) _ E s
  rw [if_neg (by simpa using hxy)]
  refine wpAny_bind (wpAny_load hx (wpAny_bind (wpAny_load hy ?_)))
  split
  · rename_i _ h1 _ _; exact absurd h1 hnt
  · exact wpAny_pure (wpAny_pure h)
/-- a value that is not the missing mark -/
def Told (v : Value) (news : Led) : Prop := (∃ i t, v = .int i t) ∨ ∃ t o, v = .ref t ∧ (t, o) ∈ news
theorem Told.more {v : Value} {q : Addr × Obj} (h : Told v news) : Told v (q :: news) := h.imp id fun ⟨t, o, e, hm⟩ => ⟨t, o, e, .tail _ hm⟩
theorem is_missing {v : Value} {y : Addr} {oy : Obj} {Q : Value → Shared → Prop} (hv : Told v news) (F : Fr h₀ L s.heap m) (N : News h₀ L s.heap news) (hy : h₀.get? y = some oy) (hnt : oy.cls ≠ .type "tuple")
    (h : Q (.bool false) s) : wpAny (model prog w) A (compareOp .Is v (.ref y)) Q E s := by
  rcases hv with ⟨i, t, rfl⟩ | ⟨t, o, rfl, hm⟩
  · exact wpAny_is_other rfl (by intro e; cases e) h
  · refine is_other_y ?_ (N _ hm).1 (F.keep _ _ hy) hnt h
    rintro rfl
    have := (N _ hm).2.2
    rw [hy] at this; cases this
theorem item_list {value slice : PySem.Expr} {l : Addr} {vs : List Value} {nn : Nat} {k : Int} {u : Tok} {v : Value} {Q : Value → Shared → Prop} (N : News h₀ L s.heap news) (hl : (l, listOf vs.toArray nn) ∈ news) (h0 : 0 ≤ k) (hhi : k < 2 ^ 62) (hx : vs[k.toNat]? = some v) (h : Q v s)
    (hs : subscripted slice false (.ref l) (.int k u) = operate [.ref l, .int k u] (getItem (.ref l) (.int k u)) := by with_unfolding_all rfl) :
    wpAny (model prog w) A (subscriptTail value slice (.ref l) (.int k u)) Q E s :=
  have hl' : s.heap.IsList l vs.toArray := ⟨_, (N _ hl).1, rfl, nn, rfl⟩
  tail_any hl'.typeIs slot_list_getitem.lookup (wpAny_getItem_list hl' h0 (by omega) (by simpa using hx) h) hs
abbrev tupO (vs : List Value) : Obj := { cls := .type "tuple", data := .seq vs.toArray }
theorem loop_bytes {σ : Type} {x : Str} {body : List Stmt} {Q : Flow → Shared → Prop} {I : Addr} {b : Array UInt8} {t : Tok} {m₀ : Str → Option Value} (ps : σ → List (Str × Value)) (stored : List Str) (Inv : Nat → σ → Led → Prop) (c₀ : σ)
    (hh : A.handled = none) (F : Fr h₀ env.locals s.heap m₀) (N : News h₀ env.locals s.heap ((I, bytesIt b t 0) :: news)) (hnI : ∀ p ∈ news, p.1 ≠ I) (hk : ∀ p ∈ ps c₀, m₀ p.1 = some p.2) (h0 : Inv 0 c₀ news)
    (turn : ∀ i c (ch : UInt8) (tc : Tok) nx (u : Str → Option Value) h tk oI, b[i]? = some ch → Inv i c nx → (∀ p ∈ nx, p.1 ≠ I) → Fr h₀ env.locals h (fun y => if y = x then some (.int ch.toNat tc) else kstB (fun z => if stored.contains z then u z else m₀ z) (ps c) y) → News h₀ env.locals h ((I, oI) :: nx) →
      wpAny (model prog w) A (execs body env) (ITurn h₀ env.locals I oI { s with heap := h, toks := tk } x ps stored m₀ (Inv (i + 1)) Q) E { s with heap := h, toks := tk })
    (done : ∀ c nx (u : Str → Option Value) h tk, Inv b.size c nx → (∀ p ∈ nx, p.1 ≠ I) → Fr h₀ env.locals h (fun y => if y = x then u y else kstB (fun z => if stored.contains z then u z else m₀ z) (ps c) y) → News h₀ env.locals h nx → Q .next { s with heap := h, toks := tk }) :
    wpAny (model prog w) A (pyIter (.ref I)) (fun it s₂ => LoopAtV prog w A h₀ env x body Q E it s₂) E s := by
  have hIt : KBw.IsBytesIter s.heap I b t 0 := ⟨_, (N _ (.head _)).1, rfl, rfl⟩
  refine KBw.pyIter_self hIt ?_
  refine iloop ps stored Inv c₀ (KBw.walks hh I b t) ?_ (fun a ha => .inl (List.mem_singleton.mp ha)) hIt F N hnI hk h0 (List.mem_singleton.mpr rfl) (fun i h st => let ⟨o, ho, _⟩ := st; ⟨o, ho⟩) ?_ done
  · intro hm; exact (N _ (.head _)).2.1 (List.mem_singleton.mp hm).symm
  · rintro i c v nx u h tk oI _ ⟨ch, tc, hc, rfl⟩ hi ha F' N'
    exact turn i c ch tc nx u h tk oI hc hi ha F' N'
theorem loop_range {σ : Type} {x : Str} {body : List Stmt} {Q : Flow → Shared → Prop} {r : Addr} {a b c : Int} {t u v : Tok} {n : Nat} {m₀ : Str → Option Value} (ps : σ → List (Str × Value)) (stored : List Str) (Inv : Nat → σ → Led → Prop) (c₀ : σ)
    (hh : A.handled = none) (hr : IsRange s.heap r a b c t u v) (hsmall : Builtin.Range.small a b c = true) (hsz : Builtin.Range.rangeSize a b c = (n : Int)) (F : Fr h₀ env.locals s.heap m₀) (N : News h₀ env.locals s.heap news) (hk : ∀ p ∈ ps c₀, m₀ p.1 = some p.2) (h0 : Inv 0 c₀ news)
    (turn : ∀ I i st (tc : Tok) nx (u : Str → Option Value) h tk oI, (∀ p ∈ news, p.1 < I) → i < n → Inv i st nx → (∀ p ∈ nx, p.1 ≠ I) → Fr h₀ env.locals h (fun y => if y = x then some (.int (a + i * c) tc) else kstB (fun z => if stored.contains z then u z else m₀ z) (ps st) y) → News h₀ env.locals h ((I, oI) :: nx) →
      wpAny (model prog w) A (execs body env) (ITurn h₀ env.locals I oI { s with heap := h, toks := tk } x ps stored m₀ (Inv (i + 1)) Q) E { s with heap := h, toks := tk })
    (done : ∀ st nx (u : Str → Option Value) h tk, Inv n st nx → Fr h₀ env.locals h (fun y => if y = x then u y else kstB (fun z => if stored.contains z then u z else m₀ z) (ps st) y) → News h₀ env.locals h nx → Q .next { s with heap := h, toks := tk }) :
    wpAny (model prog w) A (pyIter (.ref r)) (fun it s₂ => LoopAtV prog w A h₀ env x body Q E it s₂) E s := by
  refine wpAny_pyIter_range hr hsmall ?_
  have W := Walks.range (prog := prog) (w := w) hh s.heap.objs.size a c n
  have hnl : ∀ p ∈ news, p.1 < s.heap.objs.size := fun p hp => Heap.lt_size (N p hp).1
  refine iloop ps stored Inv c₀ W ?_ (fun a ha => .inl (List.mem_singleton.mp ha)) ?_ (F.push _) (News.push F N _ rfl) (fun p hp => Nat.ne_of_lt (hnl p hp)) hk h0 (List.mem_singleton.mpr rfl) (fun i h st => ⟨_, st⟩) ?_ (fun st nx u h tk hi _ F' N' => done st nx u h tk hi F' N')
  · intro hm
    exact absurd F.ns.lt ((List.mem_singleton.mp hm) ▸ Nat.lt_irrefl _)
  · show (s.heap.push _).get? _ = _
    rw [Heap.get?_push_size _ rfl, hsz]
    simp [rawInt]
  · rintro i st v nx u h tk oI hi ⟨tc, rfl⟩ hInv ha F' N'
    exact turn _ i st tc nx u h tk oI hnl hi hInv ha F' N'
theorem iter_list {l : Addr} {vs : List Value} {nn : Nat} {Q : Value → Shared → Prop} (F : Fr h₀ L s.heap m) (N : News h₀ L s.heap news) (hl : (l, listOf vs.toArray nn) ∈ news)
    (h : ∀ I h', Fr h₀ L h' m → News h₀ L h' ((I, listIt l 0) :: news) → (∀ p ∈ news, p.1 < I) → Q (.ref I) { s with heap := h' }) : wpAny (model prog w) A (call (.builtin "iter") [.ref l]) Q E s :=
  have hl' : s.heap.IsList l vs.toArray := ⟨_, (N _ hl).1, rfl, nn, rfl⟩
  iter_any (wpAny_pyIter_list hl' (h _ _ (F.push _) (News.push F N _ rfl) fun q hq => Heap.lt_size (N q hq).1))
theorem next_list {I l : Addr} {i : Nat} {vs : List Value} {nn : Nat} {oI : Obj} {v : Value} {Q : Value → Shared → Prop} (F : Fr h₀ L s.heap m) (N : News h₀ L s.heap ((I, oI) :: news)) (hc : oI.cls = .type "list_iterator") (hd : oI.data = .fields #[.ref l, .int i 0]) (hnI : ∀ p ∈ news, p.1 ≠ I) (hl : (l, listOf vs.toArray nn) ∈ news) (hx : vs[i]? = some v)
    (h : ∀ h' oI', oI'.cls = .type "list_iterator" → oI'.data = .fields #[.ref l, .int ((i + 1 : Nat) : Int) 0] → Fr h₀ L h' m → News h₀ L h' ((I, oI') :: news) → Q v { s with heap := h' }) : wpAny (model prog w) A (call (.builtin "next") [.ref I]) Q E s := by
  have hm := N _ (.head _)
  have ho : s.heap.get? I = some oI := hm.1
  have hit : s.heap.IsListIter I l i := ⟨_, ho, hc, hd⟩
  have hol := (N _ (.tail _ hl)).1
  refine call_function_entry (by decide +kernel) (by decide +kernel) kdk_entry_next (kdk_args_next _) ?_
  unfold Builtin.«next»
  refine wpAny_bind (m := someArgs "next" 1 2 _) (wpAny_of_eq (a := [Value.ref I]) (by first | rfl | kernel_rfl!) ?_)
  dsimp only
  refine wpAny_bind (wpAny_specialOf (name := Str.ofString "__next__") hit.typeIs slot_listiter_next.lookup ?_)
  refine wpAny_ite_split (fun hab => absurd hab (by decide)) (fun _ => ?_)
  refine wpAny_bind (wpAny_callSpecial?_slot (name := Str.ofString "__next__") hit.typeIs slot_listiter_next
    (wpAny_call_entry slot_listiter_next hit.typeIs entry_listiter_next ?_ (args_listiter_next _)))
  show wpAny _ _ (field (.ref I) 0 >>= _) _ _ s
  refine wpAny_bind (wpAny_field ho hd (x := .ref l) rfl ?_)
  show wpAny _ _ (if (Value.ref l == Value.none) = true then _ else _) _ _ s
  rw [if_neg (show ¬ ((Value.ref l == Value.none) = true) from Bool.false_ne_true)]
  show wpAny _ _ (field (.ref I) 1 >>= _) _ _ s
  refine wpAny_bind (wpAny_field ho hd (x := .int i 0) rfl ?_)
  show wpAny _ _ (seqItems? (.ref l) >>= _) _ _ s
  refine wpAny_bind (wpAny_seqItems hol rfl ?_)
  have hx' : vs.toArray[i]? = some v := by simpa using hx
  simp only [Int.toNat_natCast, hx']
  refine wpAny_bind (wpAny_setField ho hd (by simp) (wpAny_pure ⟨v, rfl, ?_⟩))
  refine wpAny_pure ⟨_, rfl, ?_⟩
  have hs : Heap.SameBut I s.heap (s.heap.update I (Obj.mapFields (·.setIfInBounds 1 (rawInt ((i : Int) + 1))))) := Heap.SameBut.update ..
  have ho' : (s.heap.update I (Obj.mapFields (·.setIfInBounds 1 (rawInt ((i : Int) + 1))))).get? I = some _ := Heap.get?_update_self _ ho (Obj.isFreed_of_fields (Obj.data_mapFields hd _))
  exact h _ _ ((Obj.cls_mapFields ..).trans hc) (by rw [Obj.data_mapFields hd]; simp [rawInt]) (F.change hs hm.2.1 hm.2.2) (News.setIn (own := []) N (fun _ hq => nomatch hq) hnI hs ho')
theorem walks_shift {I : Addr} {fp wr : List Addr} {n : Nat} {P : Nat → Value → Prop} {St : Nat → Heap → Prop} (W : Walks prog w A I fp wr n P St) (k : Nat) (hk : k ≤ n) :
    Walks prog w A I fp wr (n - k) (fun i v => P (i + k) v) (fun i h => St (i + k) h) where
  sub := W.sub
  frame := fun i h h' => W.frame (i + k) h h'
  item := fun i s Q E hi st hQ => W.item (i + k) s Q E (by omega) st fun v h' tk hP hS hf => hQ v h' tk hP (by rw [show i + 1 + k = i + k + 1 by omega]; exact hS) hf
  done := fun s Q E st hQ => W.done s Q E (by rw [show n = n - k + k by omega]; exact st) hQ
  self := fun i s Q E st hQ => W.self (i + k) s Q E st hQ
theorem loop_listIt {σ : Type} {x : Str} {body : List Stmt} {Q : Flow → Shared → Prop} {I l : Addr} {oI₀ : Obj} {vs : List Value} {nn k : Nat} {m₀ : Str → Option Value} (ps : σ → List (Str × Value)) (stored : List Str) (Inv : Nat → σ → Led → Prop) (c₀ : σ)
    (hh : A.handled = none) (F : Fr h₀ env.locals s.heap m₀) (N : News h₀ env.locals s.heap ((I, oI₀) :: news)) (hc : oI₀.cls = .type "list_iterator") (hd : oI₀.data = .fields #[.ref l, .int (k : Int) 0]) (hkn : k ≤ vs.length) (hnI : ∀ p ∈ news, p.1 ≠ I) (hl : ∀ i c nx, Inv i c nx → (l, listOf vs.toArray nn) ∈ nx) (hk : ∀ p ∈ ps c₀, m₀ p.1 = some p.2) (h0 : Inv 0 c₀ news)
    (turn : ∀ i c v nx (u : Str → Option Value) h tk oI, vs[i + k]? = some v → Inv i c nx → (∀ p ∈ nx, p.1 ≠ I) → Fr h₀ env.locals h (fun y => if y = x then some v else kstB (fun z => if stored.contains z then u z else m₀ z) (ps c) y) → News h₀ env.locals h ((I, oI) :: nx) →
      wpAny (model prog w) A (execs body env) (ITurn h₀ env.locals I oI { s with heap := h, toks := tk } x ps stored m₀ (Inv (i + 1)) Q) E { s with heap := h, toks := tk })
    (done : ∀ c nx (u : Str → Option Value) h tk, Inv (vs.length - k) c nx → (∀ p ∈ nx, p.1 ≠ I) → Fr h₀ env.locals h (fun y => if y = x then u y else kstB (fun z => if stored.contains z then u z else m₀ z) (ps c) y) → News h₀ env.locals h nx → Q .next { s with heap := h, toks := tk }) :
    wpAny (model prog w) A (pyIter (.ref I)) (fun it s₂ => LoopAtV prog w A h₀ env x body Q E it s₂) E s := by
  have hl0 := hl _ _ _ h0
  have hIt : s.heap.IsListIter I l k := ⟨_, (N _ (.head _)).1, hc, hd⟩
  have hL : s.heap.IsList l vs.toArray := ⟨_, (N _ (.tail _ hl0)).1, rfl, nn, rfl⟩
  have W := walks_shift (Walks.list (prog := prog) (w := w) hh I l (hnI _ hl0) vs.toArray) k (by simpa using hkn)
  rw [show vs.toArray.size - k = vs.length - k by simp] at W
  refine wpAny_pyIter_listiter hIt ?_
  refine iloop ps stored Inv c₀ W ?_ ?_ ?_ F N hnI hk h0 (.head _) (fun i h st => let ⟨o, ho, _⟩ := st.1; ⟨o, ho⟩) ?_ done
  · intro hm
    rcases List.mem_cons.mp hm with e | hm
    · exact (N _ (.head _)).2.1 e.symm
    · exact (N _ (.tail _ hl0)).2.1 (List.mem_singleton.mp hm).symm
  · intro a ha
    rcases List.mem_cons.mp ha with e | ha
    · exact .inl e
    · rw [List.mem_singleton.mp ha]; exact .inr (.inr ⟨_, hl⟩)
  · rw [Nat.zero_add]; exact ⟨hIt, hL⟩
  · rintro i c v nx u h tk oI _ hP hi ha F' N'
    exact turn i c v nx u h tk oI (by simpa using hP) hi ha F' N'
/-- a loop over a made list whose turns keep nothing; the ledger is seen through G alone -/
theorem loop_list0 {x : Str} {body : List Stmt} {Q : Flow → Shared → Prop} {l : Addr} {vs : List Value} {nn : Nat} {m₀ : Str → Option Value} {G : Led → Prop} (hG : G news) (stored : List Str)
    (hh : A.handled = none) (F : Fr h₀ env.locals s.heap m₀) (N : News h₀ env.locals s.heap news) (hl : (l, listOf vs.toArray nn) ∈ news)
    (turn : ∀ (nw : Led) (I : Addr) (i : Nat) (v : Value) (u : Str → Option Value) h tk oI, G nw → (∀ p ∈ nw, p.1 < I) → vs[i]? = some v → Fr h₀ env.locals h (fun y => if y = x then some v else if stored.contains y then u y else m₀ y) → News h₀ env.locals h ((I, oI) :: nw) →
      wpAny (model prog w) A (execs body env) (ITurn h₀ env.locals I oI { s with heap := h, toks := tk } x (fun _ : Unit => []) stored m₀ (fun _ nx => nx = nw) Q) E { s with heap := h, toks := tk })
    (done : ∀ (u : Str → Option Value) h tk, Fr h₀ env.locals h (fun y => if y = x then u y else if stored.contains y then u y else m₀ y) → News h₀ env.locals h news → Q .next { s with heap := h, toks := tk }) :
    wpAny (model prog w) A (pyIter (.ref l)) (fun it s₂ => LoopAtV prog w A h₀ env x body Q E it s₂) E s := by
  have hol := (N _ hl).1
  have hL : s.heap.IsList l vs.toArray := ⟨_, hol, rfl, nn, rfl⟩
  have hne : l ≠ s.heap.objs.size := Nat.ne_of_lt (Heap.lt_size hol)
  have hnl : ∀ p ∈ news, p.1 < s.heap.objs.size := fun p hp => Heap.lt_size (N p hp).1
  refine wpAny_pyIter_list hL ?_
  have W := Walks.list (prog := prog) (w := w) hh s.heap.objs.size l hne vs.toArray
  refine iloop (fun _ : Unit => []) stored (fun _ _ nx => nx = news) () W ?_ ?_ ?_ (F.push _) (News.push F N _ rfl) (fun p hp => Nat.ne_of_lt (hnl p hp)) (fun _ h => nomatch h) rfl (.head _) (fun i h st => let ⟨o, ho, _⟩ := st.1; ⟨o, ho⟩) ?_ ?_
  · intro hm
    rcases List.mem_cons.mp hm with e | hm
    · exact absurd F.ns.lt (e ▸ Nat.lt_irrefl _)
    · exact (N _ hl).2.1 (List.mem_singleton.mp hm).symm
  · intro a ha
    rcases List.mem_cons.mp ha with e | ha
    · exact .inl e
    · rw [List.mem_singleton.mp ha]; exact .inr (.inr ⟨listOf vs.toArray nn, fun _ _ nx e => by rw [e]; exact hl⟩)
  · exact ⟨⟨_, Heap.get?_push_size _ rfl, rfl, rfl⟩, hL.at fun o e => Heap.get?_push_of_some _ e⟩
  · rintro i _ v nx u h tk oI _ hP rfl _ F' N'
    exact turn nx _ i v u h tk oI hG hnl (by simpa using hP) F' N'
  · rintro _ nx u h tk rfl _ F' N'
    exact done u h tk F' N'
end
end Mine

namespace Mine
set_option maxRecDepth 100000 in
set_option maxHeartbeats 8000000 in
open_top hd for PySem.Challenge.rw_nq0005_01
end Mine

-- I1
namespace Mine
def wordB (n : Nat) : List UInt8 := if n = 0 then [] else wordB (n / 16) ++ [UInt8.ofNat (65 + n % 16)]
termination_by n
decreasing_by omega
theorem wordB_step {n : Nat} (h : n ≠ 0) : wordB n = wordB (n / 16) ++ [UInt8.ofNat (65 + n % 16)] := by
  rw [wordB]; simp [h]
theorem wordB_zero : wordB 0 = [] := by rw [wordB]; simp
def IInv (n num : Int) (val : Array UInt8) : Prop := 0 ≤ num ∧ wordB n.natAbs = wordB num.toNat ++ val.toList
theorem iinv0 (n : Int) : IInv n (if n < 0 then -n else n) #[] := by
  have h : (if n < 0 then -n else n) = (n.natAbs : Int) := by split <;> omega
  refine ⟨by omega, ?_⟩
  rw [h]; simp
theorem picked_ap (k : Nat) (h : k < 16) : KBy.picked #[65, 66, 67, 68, 69, 70, 71, 72, 73, 74, 75, 76, 77, 78, 79, 80] (some (k : Int)) (some ((k : Int) + 1)) = #[UInt8.ofNat (65 + k)] := by
  have : ∀ k : Fin 16, KBy.picked #[65, 66, 67, 68, 69, 70, 71, 72, 73, 74, 75, 76, 77, 78, 79, 80] (some ((k.1 : Nat) : Int)) (some (((k.1 : Nat) : Int) + 1)) = #[UInt8.ofNat (65 + k.1)] := by decide +kernel
  exact this ⟨k, h⟩
theorem iinv_size {n num : Int} {val : Array UInt8} {c : UInt8} (h : IInv n num val) (hl : (wordB n.natAbs).length ≤ 1000) : #[c].size + val.size ≤ 16777216 := by
  have := congrArg List.length h.2
  simp only [List.length_append, Array.length_toList] at this
  have e : (#[c] : Array UInt8).size = 1 := rfl
  omega
theorem iinv1 {n num : Int} {val : Array UInt8} (h : IInv n num val) (hn : num ≠ 0) : IInv n (num.fdiv 16) (#[UInt8.ofNat (65 + (num.fmod 16).toNat)] ++ val) := by
  obtain ⟨h0, h1⟩ := h
  have e1 : num.fdiv 16 = ((num.toNat / 16 : Nat) : Int) := by rw [Int.fdiv_eq_ediv_of_nonneg _ (by decide)]; omega
  have e2 : (num.fmod 16).toNat = num.toNat % 16 := by rw [Int.fmod_eq_emod_of_nonneg _ (by decide)]; omega
  refine ⟨by omega, ?_⟩
  rw [h1, wordB_step (n := num.toNat) (by omega), e1, e2, Int.toNat_natCast]
  simp
theorem iinv_less {num : Int} (h0 : 0 ≤ num) (hn : num ≠ 0) : (num.fdiv 16).toNat < num.toNat := by
  have e1 : num.fdiv 16 = ((num.toNat / 16 : Nat) : Int) := by rw [Int.fdiv_eq_ediv_of_nonneg _ (by decide)]; omega
  omega
theorem iinv_end {n num : Int} {val : Array UInt8} (h : IInv n num val) (hn : num = 0) : val = (wordB n.natAbs).toArray := by
  obtain ⟨h0, h1⟩ := h
  subst hn
  rw [h1]; simp [wordB_zero]
section
variable {prog : Program} {w : World} {A : Around} {E : Value → Shared → Prop} {s : Shared} {value slice : PySem.Expr} {t : Tok} {h₀ : Heap} {L : Addr} {m : PySem.Str → Option Value} {news : List (Addr × Obj)} {Q : Value → Shared → Prop}
theorem ap_cut {i j : Int} {ti tj : Tok} (hF : Fr h₀ L s.heap m) (hN : News h₀ L s.heap news) (h0 : 0 ≤ i) (h1 : i < 16) (hj : j = i + 1)
    (h : ∀ h' t' k, Fr h₀ L h' m → News h₀ L h' news → Q (.bytes #[UInt8.ofNat (65 + i.toNat)] t') { s with heap := h', toks := k })
    (hs : subscripted slice false (.bytes #[65, 66, 67, 68, 69, 70, 71, 72, 73, 74, 75, 76, 77, 78, 79, 80] t) (.ref s.heap.objs.size) = operate [.ref s.heap.objs.size, .bytes #[65, 66, 67, 68, 69, 70, 71, 72, 73, 74, 75, 76, 77, 78, 79, 80] t] (getItem (.bytes #[65, 66, 67, 68, 69, 70, 71, 72, 73, 74, 75, 76, 77, 78, 79, 80] t) (.ref s.heap.objs.size)) := by with_unfolding_all rfl)
    (ht : ∀ r, letTemporaryGo value (.bytes #[65, 66, 67, 68, 69, 70, 71, 72, 73, 74, 75, 76, 77, 78, 79, 80] t) r = pure () := by intro _; with_unfolding_all rfl) :
    wpAny (model prog w) A (subscriptTail value slice (.bytes #[65, 66, 67, 68, 69, 70, 71, 72, 73, 74, 75, 76, 77, 78, 79, 80] t) (.ref s.heap.objs.size)) Q E { s with heap := s.heap.push { cls := .type "slice", data := .fields #[.int i ti, .int j tj, .none] } } := by
  subst hj
  refine KBc.slice_K hF hN rfl (.int _ _) (.int _ _) (by decide) (fun h' t' k F' N' _ => ?_) hs ht
  have := h h' t' k F' N'
  have e : i = ((i.toNat : Nat) : Int) := by omega
  rw [e, picked_ap i.toNat (by omega)]
  exact this
end
set_option maxRecDepth 100000 in
set_option maxHeartbeats 8000000 in
theorem int2ap {w : World} {p : Program} {loose : List Str} {mean : ExcName → Option Value} {mg mb : Str → Option Value} (news : List (Addr × Obj)) (n : Int) (t : Tok) :
  CbClaim Challenge.rw_nq0005_01.row.prog w (hd.heap_39 w.params) p loose mean mg mb 21 news [] ((wordB n.natAbs).length ≤ 1000) [.int n t] (fun t => .bytes (wordB n.natAbs).toArray t) := by
  k_fill
  dsimp only [CbClaim, CbLists, CbRet]
  intro dp un gd cn cs a ccd cl outer A₀ base h₀ L m s Q E B F X N T hk hlen hd' hu hret
  refine wpAny_call ?_
  k_dflt cell_enter
  k_with_none
  k_with "state" => exact iinv0 _
  k_with "state" => exact iinv1 (by assumption) (by assumption)
  k_with "measure" => exact iinv_less (And.left (by assumption : IInv _ _ _)) (by assumption)
  k_with "binaryOp Add bytes bytes" => (k_here; refine KBy.add_bytes (iinv_size (by assumption) hlen) ?_; intro t' k')
  k_with "exec While Name cons nil" => k_while (fun _ num val => IInv n num val) (fun _ num _ => num.toNat) "num" "val"
  k_with "subscriptTail Name" => (
    k_here; (with_reducible rename Fr _ _ _ _ => F'); (with_reducible rename News _ _ _ _ => N');
    refine ap_cut (s := ⟨_, _, _, _, _⟩) F' N' ?h0 ?h1 rfl ?_
    case h0 => exact Int.fmod_nonneg_of_pos _ (by decide)
    case h1 => exact Int.fmod_lt_of_pos _ (by decide)
    intro h' t' k' F' N')
  k_steps
  have e := iinv_end (by assumption) (by assumption)
  rw [e]
  exact hret _ _ _ (by k_asm) (by k_asm)
end Mine

-- Z3
namespace Mine
open PySem.Calls PySem.Spec
abbrev z3a (h : Heap) (l1 : Addr) : Heap := h.push { cls := .type "list_iterator", data := .fields #[.ref l1, .int 0 0] }
abbrev z3b (h : Heap) (l1 l2 : Addr) : Heap := (z3a h l1).push { cls := .type "list_iterator", data := .fields #[.ref l2, .int 0 0] }
abbrev z3c (h : Heap) (l1 l2 l3 : Addr) : Heap := (z3b h l1 l2).push { cls := .type "list_iterator", data := .fields #[.ref l3, .int 0 0] }
abbrev z3d (h : Heap) (l1 l2 l3 : Addr) : Heap := (z3c h l1 l2 l3).push { cls := .type "tuple", data := .seq #[.ref h.objs.size, .ref (z3a h l1).objs.size, .ref (z3b h l1 l2).objs.size] }
abbrev z3e (h : Heap) (l1 l2 l3 : Addr) : Heap := (z3d h l1 l2 l3).push { cls := .type "tuple", data := .seq #[.none, .none, .none] }
abbrev z3f (h : Heap) (l1 l2 l3 : Addr) : Heap := (z3e h l1 l2 l3).push { cls := .type "zip", data := .fields #[.none, .bool false, .bool false, .ref (z3c h l1 l2 l3).objs.size, .ref (z3d h l1 l2 l3).objs.size] }
set_option maxRecDepth 100000 in
set_option maxHeartbeats 4000000 in
theorem meets_zip3 (l1 l2 l3 : Addr) (xs ys zs : Array Value) :
    Meets (Builtin.«zip.__new__» ⟨[.type "zip", .ref l1, .ref l2, .ref l3], []⟩) (fun _ R s => s.heap.IsList l1 xs ∧ s.heap.IsList l2 ys ∧ s.heap.IsList l3 zs ∧
      R (.ok (.ret (.ref (z3e s.heap l1 l2 l3).objs.size))) { s with heap := z3f s.heap l1 l2 l3 }) :=
  .of_wp fun prog w A R s h => by
    obtain ⟨hp, g, d, tk, os⟩ := s; obtain ⟨hl1, hl2, hl3, h⟩ := h
    have hsub := sub_zip
    have hL1 : Heap.IsList (Shared.heap ⟨hp, g, d, tk, os⟩) l1 xs := hl1
    have hL2 : Heap.IsList (Shared.heap ⟨hp.push { cls := .type "list_iterator", data := .fields #[.ref l1, .int 0 0] }, g, d, tk, os⟩) l2 ys := Heap.IsList.push hl2 _
    have hL3 : Heap.IsList (Shared.heap ⟨(hp.push { cls := .type "list_iterator", data := .fields #[.ref l1, .int 0 0] }).push { cls := .type "list_iterator", data := .fields #[.ref l2, .int 0 0] }, g, d, tk, os⟩) l3 zs := Heap.IsList.push (Heap.IsList.push hl3 _) _
    wp_walk using wpAny_pyIter_list hL1, wpAny_pyIter_list hL2, wpAny_pyIter_list hL3
    exact ⟨_, rfl, h⟩
theorem typeCall_zip_3 (a b c : Value) : checkTypeCall "zip" ⟨[a, b, c], []⟩ = pure () := by kernel_rfl
theorem newCall_zip_3 (a b c : Value) : checkBuiltinCall "zip.__new__" ⟨[.type "zip", a, b, c], []⟩ = pure () := by kernel_rfl
theorem args_object_init_4 (a b c d : Value) : argsOk "object.__init__" ⟨[a, b, c, d], []⟩ := by
  unfold argsOk; rw [signature?_of (id := "object.__init__") (n := ['_', '_', 't', 'i', 'n', 'i', '_', '_']) (o := ['t', 'c', 'e', 'j', 'b', 'o']) (by kernel_rfl) PySem.F.owner_object]; kernel_rfl
abbrev zipO (f0 : Value) (b1 : Bool) (TI TO : Addr) : Obj := { cls := .type "zip", dict := none, data := .fields #[f0, .bool b1, .bool false, .ref TI, .ref TO], slots := #[] }
section
variable {prog : Program} {w : World} {A : Around} {E : Value → Shared → Prop} {s : Shared} {h₀ : Heap} {L : Addr} {m : Str → Option Value} {news : Led}
theorem call_zip3 {l1 l2 l3 : Addr} {xs ys zs : Array Value} {Q : Value → Shared → Prop} (hl1 : s.heap.IsList l1 xs) (hl2 : s.heap.IsList l2 ys) (hl3 : s.heap.IsList l3 zs)
    (h : ((z3f s.heap l1 l2 l3).objs.size = s.heap.objs.size + 6) → (z3f s.heap l1 l2 l3).get? (s.heap.objs.size + 5) = some (zipO .none false (s.heap.objs.size + 3) (s.heap.objs.size + 4)) →
      (z3f s.heap l1 l2 l3).get? (s.heap.objs.size + 3) = some (tupO [.ref s.heap.objs.size, .ref (s.heap.objs.size + 1), .ref (s.heap.objs.size + 2)]) → (z3f s.heap l1 l2 l3).get? (s.heap.objs.size + 4) = some (tupO [.none, .none, .none]) →
      (z3f s.heap l1 l2 l3).IsListIter s.heap.objs.size l1 0 → (z3f s.heap l1 l2 l3).IsListIter (s.heap.objs.size + 1) l2 0 → (z3f s.heap l1 l2 l3).IsListIter (s.heap.objs.size + 2) l3 0 →
      (∀ c o, s.heap.get? c = some o → (z3f s.heap l1 l2 l3).get? c = some o) → Q (.ref (s.heap.objs.size + 5)) { s with heap := z3f s.heap l1 l2 l3 }) :
    wpAny (model prog w) A (call (.type "zip") [.ref l1, .ref l2, .ref l3]) Q E s := by
  refine callType_new PySem.F.called_zip (by decide) (typeCall_zip_3 _ _ _) (newCall_zip_3 _ _ _) (fun obj => args_object_init_4 obj _ _ _) PySem.F.entry_zip_new (meets_zip3 l1 l2 l3 xs ys zs) ⟨hl1, hl2, hl3, ?_⟩
  have z1 : (z3a s.heap l1).objs.size = s.heap.objs.size + 1 := Heap.size_push ..
  have z2 : (z3b s.heap l1 l2).objs.size = s.heap.objs.size + 2 := by rw [Heap.size_push, z1]
  have z3 : (z3c s.heap l1 l2 l3).objs.size = s.heap.objs.size + 3 := by rw [Heap.size_push, z2]
  have z4 : (z3d s.heap l1 l2 l3).objs.size = s.heap.objs.size + 4 := by rw [Heap.size_push, z3]
  have z5 : (z3e s.heap l1 l2 l3).objs.size = s.heap.objs.size + 5 := by rw [Heap.size_push, z4]
  have z6 : (z3f s.heap l1 l2 l3).objs.size = s.heap.objs.size + 6 := by rw [Heap.size_push, z5]
  have g6 : (z3f s.heap l1 l2 l3).get? (z3e s.heap l1 l2 l3).objs.size = some _ := Heap.get?_push_size _ rfl
  have g5 : (z3f s.heap l1 l2 l3).get? (z3d s.heap l1 l2 l3).objs.size = some _ := Heap.get?_push_of_some _ (Heap.get?_push_size _ rfl)
  have g4 : (z3f s.heap l1 l2 l3).get? (z3c s.heap l1 l2 l3).objs.size = some _ := Heap.get?_push_of_some _ (Heap.get?_push_of_some _ (Heap.get?_push_size _ rfl))
  have g3 : (z3f s.heap l1 l2 l3).get? (z3b s.heap l1 l2).objs.size = some _ := Heap.get?_push_of_some _ (Heap.get?_push_of_some _ (Heap.get?_push_of_some _ (Heap.get?_push_size _ rfl)))
  have g2 : (z3f s.heap l1 l2 l3).get? (z3a s.heap l1).objs.size = some _ := Heap.get?_push_of_some _ (Heap.get?_push_of_some _ (Heap.get?_push_of_some _ (Heap.get?_push_of_some _ (Heap.get?_push_size _ rfl))))
  have g1 : (z3f s.heap l1 l2 l3).get? s.heap.objs.size = some _ := Heap.get?_push_of_some _ (Heap.get?_push_of_some _ (Heap.get?_push_of_some _ (Heap.get?_push_of_some _ (Heap.get?_push_of_some _ (Heap.get?_push_size _ rfl)))))
  show _ ∧ _
  rw [z3, z4, z5] at g6
  rw [z1, z2, z3] at g4
  rw [z4] at g5
  rw [z1] at g2
  rw [z2] at g3
  rw [z5]
  exact ⟨⟨_, g6, rfl⟩, h z6 g6 g4 g5 ⟨_, g1, rfl, rfl⟩ ⟨_, g2, rfl, rfl⟩ ⟨_, g3, rfl, rfl⟩ fun c o x =>
    Heap.get?_push_of_some _ (Heap.get?_push_of_some _ (Heap.get?_push_of_some _ (Heap.get?_push_of_some _ (Heap.get?_push_of_some _ (Heap.get?_push_of_some _ x)))))⟩
end
end Mine

-- Z3b
namespace Mine
open PySem.Calls PySem.Spec
structure Z3Ap (z TI TO i1 i2 i3 l1 l2 l3 : Nat) : Prop where
  a1 : l1 < i1
  a2 : l2 < i1
  a3 : l3 < i1
  a4 : i1 < i2
  a5 : i2 < i3
  a6 : i3 < TI
  a7 : TI < TO
  a8 : TO < z
structure Z3St (h : Heap) (z TI TO i1 i2 i3 l1 l2 l3 : Nat) (xs ys zs : Array Value) (i : Nat) (f0 : Value) (b1 : Bool) (a b c : Value) : Prop where
  hz : h.get? z = some (zipO f0 b1 TI TO)
  hTI : h.get? TI = some (tupO [.ref i1, .ref i2, .ref i3])
  hTO : h.get? TO = some (tupO [a, b, c])
  h1 : h.IsListIter i1 l1 i
  h2 : h.IsListIter i2 l2 i
  h3 : h.IsListIter i3 l3 i
  k1 : h.IsList l1 xs
  k2 : h.IsList l2 ys
  k3 : h.IsList l3 zs
theorem Z3St.at {h h' : Heap} {z TI TO i1 i2 i3 l1 l2 l3 : Nat} {xs ys zs : Array Value} {i : Nat} {f0 : Value} {b1 : Bool} {a b c : Value} (S : Z3St h z TI TO i1 i2 i3 l1 l2 l3 xs ys zs i f0 b1 a b c)
    (hk : ∀ d o, d ≤ z → h.get? d = some o → h'.get? d = some o) (D : Z3Ap z TI TO i1 i2 i3 l1 l2 l3) : Z3St h' z TI TO i1 i2 i3 l1 l2 l3 xs ys zs i f0 b1 a b c := by
  obtain ⟨d1, d2, d3, d4, d5, d6, d7, d8⟩ := D
  exact ⟨hk _ _ (Nat.le_refl _) S.hz, hk _ _ (by omega) S.hTI, hk _ _ (by omega) S.hTO, S.h1.at fun o e => hk _ o (by omega) e, S.h2.at fun o e => hk _ o (by omega) e, S.h3.at fun o e => hk _ o (by omega) e, S.k1.at fun o e => hk _ o (by omega) e, S.k2.at fun o e => hk _ o (by omega) e, S.k3.at fun o e => hk _ o (by omega) e⟩
theorem nz {a b : Nat} (h : a < b ∨ b < a) : a ≠ b := by omega
section
variable {prog : Program} {w : World} {A : Around} {E : Value → Shared → Prop} {s : Shared}
theorem upd_tup3 {T : Addr} {a b c x : Value} {k : Nat} {Q : Unit → Shared → Prop} (hT : s.heap.get? T = some (tupO [a, b, c]))
    (h : ∀ h', h'.get? T = some { cls := .type "tuple", data := .seq ((#[a, b, c] : Array Value).setIfInBounds k x) } → Heap.SameBut T s.heap h' → Q () { s with heap := h' }) :
    wpAny (model prog w) A (updateSeq T (·.setIfInBounds k x)) Q E s := by
  refine wpAny_updateSeq hT rfl (h _ ?_ (Heap.SameBut.update ..))
  rw [Heap.get?_update_self _ hT rfl]
  simp [Obj.mapSeq]
set_option maxHeartbeats 1000000 in
theorem z3_free {z TI TO i1 i2 i3 l1 l2 l3 : Nat} {xs ys zs : Array Value} {i : Nat} {b1 : Bool} {a b c x y t : Value} {Q : Value → Shared → Prop} (D : Z3Ap z TI TO i1 i2 i3 l1 l2 l3)
    (S : Z3St s.heap z TI TO i1 i2 i3 l1 l2 l3 xs ys zs i .none b1 a b c) (hx : xs[i]? = some x) (hy : ys[i]? = some y) (ht : zs[i]? = some t)
    (hQ : ∀ h', Z3St h' z TI TO i1 i2 i3 l1 l2 l3 xs ys zs (i + 1) (rawInt s.heap.objs.size) false x y t → h'.get? s.heap.objs.size = some (tupO [x, y, t]) → h'.objs.size = s.heap.objs.size + 1 →
      (∀ d o, d ≠ z → d ≠ TO → d ≠ i1 → d ≠ i2 → d ≠ i3 → s.heap.get? d = some o → h'.get? d = some o) → Q (.ref s.heap.objs.size) { s with heap := h' }) :
    wpAny (model prog w) A (Builtin.«zip.__next__» ⟨[.ref z], []⟩) (fun fin s' => ∃ v, fin = .done (.ret v) ∧ Q v s') E s := by
  obtain ⟨d1, d2, d3, d4, d5, d6, d7, d8⟩ := D
  obtain ⟨hz, hTI, hTO, h1, h2, h3, k1, k2, k3⟩ := S
  show wpAny _ _ (field (.ref z) 2 >>= _) _ _ _
  refine wpAny_bind (wpAny_field hz rfl (x := .bool false) rfl ?_)
  show wpAny _ _ (field (.ref z) 3 >>= _) _ _ _
  refine wpAny_bind (wpAny_field hz rfl (x := .ref TI) rfl ?_)
  refine wpAny_bind (wpAny_seqItems hTI rfl ?_)
  show wpAny _ _ (Builtin.SmallTypes.ownedTupleIsFree (.ref z) >>= _) _ _ _
  refine wpAny_bind ?_
  unfold Builtin.SmallTypes.ownedTupleIsFree
  refine wpAny_bind (wpAny_field hz rfl (x := .none) rfl (wpAny_pure ?_))
  simp only [if_true]
  refine wpAny_bind (wpAny_rule ?_)
  refine wpAny_bind (wpAny_field hz rfl (x := .ref TO) rfl ?_)
  refine wpAny_bind (wpAny_setField_rec hz (by simp) fun g₁ hz₁ hs₁ => ?_)
  replace hz₁ : g₁.get? z = some (zipO .ellipsis b1 TI TO) := hz₁
  refine wpAny_bind ?_
  simp only [List.zipIdx_cons, List.zipIdx_nil, List.forIn_cons, List.forIn_nil]
  refine wpAny_bind (wpAny_bind (wpAny_onRaise ?_))
  show wpAny _ _ (Builtin.SmallTypes.nextOf (.ref i1) >>= _) _ _ _
  refine wpAny_bind (wpAny_nextOf_list_item (h1.extBut hs₁.extBut (nz (by omega))) (k1.extBut hs₁.extBut (nz (by omega))) hx fun g₂ e₂ hs₂ => wpAny_pure ?_)
  have hTO₂ : g₂.get? TO = some (tupO [a, b, c]) := hs₂.extBut _ _ (nz (by omega)) (hs₁.extBut _ _ (nz (by omega)) hTO)
  refine wpAny_bind (wpAny_seqItems hTO₂ rfl ?_)
  refine wpAny_bind (upd_tup3 hTO₂ fun g₃ hTO₃ hs₃ => ?_)
  replace hTO₃ : g₃.get? TO = some (tupO [x, b, c]) := hTO₃
  refine wpAny_bind (wpAny_letGo (wpAny_pure ?_))
  refine wpAny_bind (wpAny_bind (wpAny_onRaise ?_))
  show wpAny _ _ (Builtin.SmallTypes.nextOf (.ref i2) >>= _) _ _ _
  refine wpAny_bind (wpAny_nextOf_list_item (((h2.extBut hs₁.extBut (nz (by omega))).extBut hs₂.extBut (nz (by omega))).extBut hs₃.extBut (nz (by omega)))
    (((k2.extBut hs₁.extBut (nz (by omega))).extBut hs₂.extBut (nz (by omega))).extBut hs₃.extBut (nz (by omega))) hy fun g₄ e₄ hs₄ => wpAny_pure ?_)
  have hTO₄ : g₄.get? TO = some (tupO [x, b, c]) := hs₄.extBut _ _ (nz (by omega)) hTO₃
  refine wpAny_bind (wpAny_seqItems hTO₄ rfl ?_)
  refine wpAny_bind (upd_tup3 hTO₄ fun g₅ hTO₅ hs₅ => ?_)
  replace hTO₅ : g₅.get? TO = some (tupO [x, y, c]) := hTO₅
  refine wpAny_bind (wpAny_letGo (wpAny_pure ?_))
  refine wpAny_bind (wpAny_bind (wpAny_onRaise ?_))
  show wpAny _ _ (Builtin.SmallTypes.nextOf (.ref i3) >>= _) _ _ _
  refine wpAny_bind (wpAny_nextOf_list_item (((((h3.extBut hs₁.extBut (nz (by omega))).extBut hs₂.extBut (nz (by omega))).extBut hs₃.extBut (nz (by omega))).extBut hs₄.extBut (nz (by omega))).extBut hs₅.extBut (nz (by omega)))
    (((((k3.extBut hs₁.extBut (nz (by omega))).extBut hs₂.extBut (nz (by omega))).extBut hs₃.extBut (nz (by omega))).extBut hs₄.extBut (nz (by omega))).extBut hs₅.extBut (nz (by omega))) ht fun g₆ e₆ hs₆ => wpAny_pure ?_)
  have hTO₆ : g₆.get? TO = some (tupO [x, y, c]) := hs₆.extBut _ _ (nz (by omega)) hTO₅
  refine wpAny_bind (wpAny_seqItems hTO₆ rfl ?_)
  refine wpAny_bind (upd_tup3 hTO₆ fun g₇ hTO₇ hs₇ => ?_)
  replace hTO₇ : g₇.get? TO = some (tupO [x, y, t]) := hTO₇
  refine wpAny_bind (wpAny_letGo (wpAny_pure (wpAny_pure ?_)))
  refine wpAny_bind (wpAny_seqItems hTO₇ rfl ?_)
  refine wpAny_bind (wpAny_newTuple ?_)
  have hsz : g₇.objs.size = s.heap.objs.size := by rw [hs₇.1, hs₆.1, hs₅.1, hs₄.1, hs₃.1, hs₂.1, hs₁.1]
  have hz₇ : g₇.get? z = some (zipO .ellipsis b1 TI TO) := hs₇.extBut _ _ (nz (by omega)) (hs₆.extBut _ _ (nz (by omega)) (hs₅.extBut _ _ (nz (by omega)) (hs₄.extBut _ _ (nz (by omega)) (hs₃.extBut _ _ (nz (by omega)) (hs₂.extBut _ _ (nz (by omega)) hz₁)))))
  have hk₇ : ∀ d o, d ≠ z → d ≠ TO → d ≠ i1 → d ≠ i2 → d ≠ i3 → s.heap.get? d = some o → g₇.get? d = some o := fun d o c1 c2 c3 c4 c5 e =>
    hs₇.extBut _ _ c2 (hs₆.extBut _ _ c5 (hs₅.extBut _ _ c2 (hs₄.extBut _ _ c4 (hs₃.extBut _ _ c2 (hs₂.extBut _ _ c3 (hs₁.extBut _ _ c1 e))))))
  have f1 : g₇.IsListIter i1 l1 (i + 1) := ((((e₂.extBut hs₃.extBut (nz (by omega))).extBut hs₄.extBut (nz (by omega))).extBut hs₅.extBut (nz (by omega))).extBut hs₆.extBut (nz (by omega))).extBut hs₇.extBut (nz (by omega))
  have f2 : g₇.IsListIter i2 l2 (i + 1) := ((e₄.extBut hs₅.extBut (nz (by omega))).extBut hs₆.extBut (nz (by omega))).extBut hs₇.extBut (nz (by omega))
  have f3 : g₇.IsListIter i3 l3 (i + 1) := e₆.extBut hs₇.extBut (nz (by omega))
  have hzlt : z < g₇.objs.size := Heap.lt_size hz₇
  show wpAny _ _ (Builtin.SmallTypes.ownedTupleHandOut (.ref z) (.ref g₇.objs.size) >>= _) _ _ _
  refine wpAny_bind ?_
  unfold Builtin.SmallTypes.ownedTupleHandOut
  have hz₈ : (g₇.push (tupO [x, y, t])).get? z = some (zipO .ellipsis b1 TI TO) := Heap.get?_push_of_some _ hz₇
  refine wpAny_bind (wpAny_setField_rec hz₈ (by simp) fun g₉ hz₉ hs₉ => ?_)
  replace hz₉ : g₉.get? z = some (zipO (rawInt g₇.objs.size) b1 TI TO) := hz₉
  refine wpAny_setField_rec hz₉ (by simp) fun g₀ hz₀ hs₀ => ?_
  replace hz₀ : g₀.get? z = some (zipO (rawInt g₇.objs.size) false TI TO) := hz₀
  have up : ∀ d o, d ≠ z → g₇.get? d = some o → g₀.get? d = some o := fun d o c1 e => hs₀.extBut _ _ c1 (hs₉.extBut _ _ c1 (Heap.get?_push_of_some _ e))
  have hT₀ : g₀.get? g₇.objs.size = some (tupO [x, y, t]) := hs₀.extBut _ _ (Nat.ne_of_gt hzlt) (hs₉.extBut _ _ (Nat.ne_of_gt hzlt) (Heap.get?_push_size _ rfl))
  have hz8 : g₀.objs.size = g₇.objs.size + 1 := by rw [hs₀.1, hs₉.1, Heap.size_push]
  rw [hsz] at hz₀ hT₀ hz8
  refine wpAny_pure ⟨_, rfl, ?_⟩
  show Q (.ref g₇.objs.size) _
  rw [hsz]
  have old : ∀ d o, d ≠ z → d ≠ TO → d ≠ i1 → d ≠ i2 → d ≠ i3 → s.heap.get? d = some o → g₀.get? d = some o := fun d o c1 c2 c3 c4 c5 e => up d o c1 (hk₇ d o c1 c2 c3 c4 c5 e)
  exact hQ g₀ ⟨hz₀, old _ _ (nz (by omega)) (nz (by omega)) (nz (by omega)) (nz (by omega)) (nz (by omega)) hTI, up _ _ (nz (by omega)) hTO₇, f1.at fun o e => up _ o (nz (by omega)) e, f2.at fun o e => up _ o (nz (by omega)) e, f3.at fun o e => up _ o (nz (by omega)) e,
    k1.at fun o e => old _ o (nz (by omega)) (nz (by omega)) (nz (by omega)) (nz (by omega)) (nz (by omega)) e, k2.at fun o e => old _ o (nz (by omega)) (nz (by omega)) (nz (by omega)) (nz (by omega)) (nz (by omega)) e, k3.at fun o e => old _ o (nz (by omega)) (nz (by omega)) (nz (by omega)) (nz (by omega)) (nz (by omega)) e⟩ hT₀ hz8 old
theorem owned_busy {z TI TO T : Nat} {oT : Obj} {b1 : Bool} (hz : s.heap.get? z = some (zipO (rawInt T) b1 TI TO)) (hT : s.heap.get? T = some oT) :
    wpAny (model prog w) A (Builtin.SmallTypes.ownedTupleIsFree (.ref z)) (fun r s' => r = false ∧ ∃ g₁ : Heap, s' = { s with heap := g₁ } ∧ g₁.get? z = some (zipO (rawInt T) true TI TO) ∧ Heap.SameBut z s.heap g₁) E s := by
  unfold Builtin.SmallTypes.ownedTupleIsFree
  refine wpAny_bind (wpAny_field hz rfl (x := rawInt T) rfl ?_)
  show wpAny _ _ (loadIfAlive ((T : Int).toNat) >>= _) _ _ _
  rw [Int.toNat_natCast]
  refine wpAny_bind (kdx_alive hT ?_)
  simp only [Option.isNone_some, Bool.false_eq_true, if_false]
  refine wpAny_bind (wpAny_field hz rfl (x := .bool b1) rfl ?_)
  cases b1 with
  | true =>
    rw [if_neg (show ¬ ((Value.bool true != Value.bool true) = true) from Bool.false_ne_true)]
    exact wpAny_pure ⟨rfl, s.heap, rfl, hz, Heap.SameBut.refl _ _⟩
  | false =>
    rw [if_pos (show (Value.bool false != Value.bool true) = true from rfl)]
    refine wpAny_bind (wpAny_setField_rec hz (by simp) fun h₃ he₃ hs₃ => ?_)
    exact wpAny_pure ⟨rfl, h₃, rfl, he₃, hs₃⟩
set_option maxHeartbeats 1000000 in
theorem z3_busy {z TI TO i1 i2 i3 l1 l2 l3 T : Nat} {oT : Obj} {xs ys zs : Array Value} {i : Nat} {b1 : Bool} {a b c x y t : Value} {Q : Value → Shared → Prop} (D : Z3Ap z TI TO i1 i2 i3 l1 l2 l3)
    (S : Z3St s.heap z TI TO i1 i2 i3 l1 l2 l3 xs ys zs i (rawInt T) b1 a b c) (hT : s.heap.get? T = some oT) (hTz : z < T) (hx : xs[i]? = some x) (hy : ys[i]? = some y) (ht : zs[i]? = some t)
    (hQ : ∀ h', Z3St h' z TI TO i1 i2 i3 l1 l2 l3 xs ys zs (i + 1) (rawInt T) true a b c → h'.get? s.heap.objs.size = some (tupO [x, y, t]) → h'.objs.size = s.heap.objs.size + 1 →
      (∀ d o, d ≠ z → d ≠ TO → d ≠ i1 → d ≠ i2 → d ≠ i3 → s.heap.get? d = some o → h'.get? d = some o) → Q (.ref s.heap.objs.size) { s with heap := h' }) :
    wpAny (model prog w) A (Builtin.«zip.__next__» ⟨[.ref z], []⟩) (fun fin s' => ∃ v, fin = .done (.ret v) ∧ Q v s') E s := by
  obtain ⟨d1, d2, d3, d4, d5, d6, d7, d8⟩ := D
  obtain ⟨hz, hTI, hTO, h1, h2, h3, k1, k2, k3⟩ := S
  show wpAny _ _ (field (.ref z) 2 >>= _) _ _ _
  refine wpAny_bind (wpAny_field hz rfl (x := .bool false) rfl ?_)
  show wpAny _ _ (field (.ref z) 3 >>= _) _ _ _
  refine wpAny_bind (wpAny_field hz rfl (x := .ref TI) rfl ?_)
  refine wpAny_bind (wpAny_seqItems hTI rfl ?_)
  show wpAny _ _ (Builtin.SmallTypes.ownedTupleIsFree (.ref z) >>= _) _ _ _
  refine wpAny_bind (wpAny_mono (owned_busy hz hT) (fun r s' hr => ?_) fun _ _ e => e)
  obtain ⟨rfl, g₁, rfl, hz₁, hs₁⟩ := hr
  simp only [Bool.false_eq_true, if_false]
  simp only [← Array.forIn_toList, List.forIn_cons, List.forIn_nil]
  refine wpAny_bind ?_
  refine wpAny_bind (wpAny_bind (wpAny_holding ?_))
  show wpAny _ _ (Builtin.SmallTypes.nextOf (.ref i1) >>= _) _ _ _
  refine wpAny_bind (wpAny_nextOf_list_item (h1.extBut hs₁.extBut (nz (by omega))) (k1.extBut hs₁.extBut (nz (by omega))) hx fun g₂ e₂ hs₂ => wpAny_pure (wpAny_pure ?_))
  refine wpAny_bind (wpAny_bind (wpAny_holding ?_))
  show wpAny _ _ (Builtin.SmallTypes.nextOf (.ref i2) >>= _) _ _ _
  refine wpAny_bind (wpAny_nextOf_list_item ((h2.extBut hs₁.extBut (nz (by omega))).extBut hs₂.extBut (nz (by omega))) ((k2.extBut hs₁.extBut (nz (by omega))).extBut hs₂.extBut (nz (by omega))) hy fun g₃ e₃ hs₃ => wpAny_pure (wpAny_pure ?_))
  refine wpAny_bind (wpAny_bind (wpAny_holding ?_))
  show wpAny _ _ (Builtin.SmallTypes.nextOf (.ref i3) >>= _) _ _ _
  refine wpAny_bind (wpAny_nextOf_list_item (((h3.extBut hs₁.extBut (nz (by omega))).extBut hs₂.extBut (nz (by omega))).extBut hs₃.extBut (nz (by omega))) (((k3.extBut hs₁.extBut (nz (by omega))).extBut hs₂.extBut (nz (by omega))).extBut hs₃.extBut (nz (by omega))) ht fun g₄ e₄ hs₄ => wpAny_pure (wpAny_pure (wpAny_pure ?_)))
  refine wpAny_bind (wpAny_newTuple (hsz := by show [x, y, t].length ≤ sizeLine; rw [sizeLine_eq]; simp) ?_)
  have hsz : g₄.objs.size = s.heap.objs.size := by rw [hs₄.1, hs₃.1, hs₂.1, hs₁.1]
  have old : ∀ d o, d ≠ z → d ≠ TO → d ≠ i1 → d ≠ i2 → d ≠ i3 → s.heap.get? d = some o → (g₄.push (tupO [x, y, t])).get? d = some o := fun d o c1 c2 c3 c4 c5 e =>
    Heap.get?_push_of_some _ (hs₄.extBut _ _ c5 (hs₃.extBut _ _ c4 (hs₂.extBut _ _ c3 (hs₁.extBut _ _ c1 e))))
  have up : ∀ d o, d ≠ i1 → d ≠ i2 → d ≠ i3 → g₁.get? d = some o → (g₄.push (tupO [x, y, t])).get? d = some o := fun d o c3 c4 c5 e =>
    Heap.get?_push_of_some _ (hs₄.extBut _ _ c5 (hs₃.extBut _ _ c4 (hs₂.extBut _ _ c3 e)))
  refine wpAny_pure ⟨_, rfl, ?_⟩
  show Q (.ref g₄.objs.size) _
  rw [hsz]
  refine hQ (g₄.push (tupO [x, y, t])) ⟨up _ _ (nz (by omega)) (nz (by omega)) (nz (by omega)) hz₁, old _ _ (nz (by omega)) (nz (by omega)) (nz (by omega)) (nz (by omega)) (nz (by omega)) hTI, up _ _ (nz (by omega)) (nz (by omega)) (nz (by omega)) (hs₁.extBut _ _ (nz (by omega)) hTO), ?_, ?_, ?_,
    k1.at fun o e => old _ o (nz (by omega)) (nz (by omega)) (nz (by omega)) (nz (by omega)) (nz (by omega)) e, k2.at fun o e => old _ o (nz (by omega)) (nz (by omega)) (nz (by omega)) (nz (by omega)) (nz (by omega)) e, k3.at fun o e => old _ o (nz (by omega)) (nz (by omega)) (nz (by omega)) (nz (by omega)) (nz (by omega)) e⟩ (by rw [← hsz]; exact Heap.get?_push_size _ rfl) (by rw [Heap.size_push, hsz]) old
  · exact ((e₂.extBut hs₃.extBut (nz (by omega))).extBut hs₄.extBut (nz (by omega))).at fun o e => Heap.get?_push_of_some _ e
  · exact (e₃.extBut hs₄.extBut (nz (by omega))).at fun o e => Heap.get?_push_of_some _ e
  · exact e₄.at fun o e => Heap.get?_push_of_some _ e
end
end Mine

-- Z3c
namespace Mine
open PySem.Calls PySem.Spec
section
variable {prog : Program} {w : World} {A : Around} {E : Value → Shared → Prop} {s : Shared}
theorem z3_end {z TI TO i1 i2 i3 l1 l2 l3 T : Nat} {oT : Obj} {xs ys zs : Array Value} {i : Nat} {b1 : Bool} {a b c : Value} {Q : Option Value → Shared → Prop} (hh : A.handled = none) (D : Z3Ap z TI TO i1 i2 i3 l1 l2 l3)
    (S : Z3St s.heap z TI TO i1 i2 i3 l1 l2 l3 xs ys zs i (rawInt T) b1 a b c) (hT : s.heap.get? T = some oT) (hx : xs[i]? = none)
    (hQ : ∀ h', (∀ d o, d ≠ z → d ≠ TO → d ≠ i1 → d ≠ i2 → d ≠ i3 → s.heap.get? d = some o → h'.get? d = some o) → Q none { s with heap := h' }) :
    wpAny (model prog w) A (pyNext (.ref z)) Q E s := by
  obtain ⟨d1, d2, d3, d4, d5, d6, d7, d8⟩ := D
  obtain ⟨hz, hTI, hTO, h1, h2, h3, k1, k2, k3⟩ := S
  have hTy : s.TypeIs (.ref z) "zip" := ⟨_, hz, rfl⟩
  unfold pyNext
  refine wpAny_bind (wpAny_attempt (wpAny_callSpecial?_slot (name := Str.ofString "__next__") hTy PySem.F.slot_zip_next
    (wpAny_call_entry PySem.F.slot_zip_next hTy PySem.F.entry_zip_next ?_ (PySem.F.args_zip_next_1 _))))
  show wpAny _ _ (field (.ref z) 2 >>= _) _ _ _
  refine wpAny_bind (wpAny_field hz rfl (x := .bool false) rfl ?_)
  show wpAny _ _ (field (.ref z) 3 >>= _) _ _ _
  refine wpAny_bind (wpAny_field hz rfl (x := .ref TI) rfl ?_)
  refine wpAny_bind (wpAny_seqItems hTI rfl ?_)
  show wpAny _ _ (Builtin.SmallTypes.ownedTupleIsFree (.ref z) >>= _) _ _ _
  refine wpAny_bind (wpAny_mono (owned_busy hz hT) (fun r s' hr => ?_) fun _ _ e => e)
  obtain ⟨rfl, g₁, rfl, hz₁, hs₁⟩ := hr
  simp only [Bool.false_eq_true, if_false]
  simp only [← Array.forIn_toList, List.forIn_cons, List.forIn_nil]
  refine wpAny_bind ?_
  refine wpAny_bind (wpAny_bind (wpAny_holding ?_))
  show wpAny _ _ (Builtin.SmallTypes.nextOf (.ref i1) >>= _) _ _ _
  refine wpAny_bind (wpAny_nextOf_list_end hh (h1.extBut hs₁.extBut (nz (by omega))) (k1.extBut hs₁.extBut (nz (by omega))) hx fun g₂ e hs₂ he => ?_)
  obtain ⟨oe, hoe, hce⟩ := he
  refine wpAny_bind (wpAny_isInstance (T := "StopIteration") (b := true) ⟨oe, hoe, hce⟩ isSubtype_stop ?_)
  exact wpAny_pure (hQ _ fun d o c1 _ c3 _ _ x => hs₂ _ _ c3 (hs₁.extBut _ _ c1 x))
/-- the state of the zip within list(..): nothing handed out yet, or a tuple that is kept -/
def Z3On (h : Heap) (z TI TO i1 i2 i3 l1 l2 l3 : Nat) (xs ys zs : Array Value) (i : Nat) : Prop :=
  ∃ f0 b1 a b c, Z3St h z TI TO i1 i2 i3 l1 l2 l3 xs ys zs i f0 b1 a b c ∧ ((f0 = .none ∧ i = 0) ∨ ∃ T oT, f0 = rawInt (T : Nat) ∧ z + 1 < T ∧ h.get? T = some oT)
theorem z3_item {z TI TO i1 i2 i3 l1 l2 l3 : Nat} {xs ys zs : Array Value} {i : Nat} {x y t : Value} {Q : Option Value → Shared → Prop} (D : Z3Ap z TI TO i1 i2 i3 l1 l2 l3)
    (S : Z3On s.heap z TI TO i1 i2 i3 l1 l2 l3 xs ys zs i) (hx : xs[i]? = some x) (hy : ys[i]? = some y) (ht : zs[i]? = some t) (hsize : z + 1 < s.heap.objs.size)
    (hQ : ∀ h', Z3On h' z TI TO i1 i2 i3 l1 l2 l3 xs ys zs (i + 1) → h'.get? s.heap.objs.size = some (tupO [x, y, t]) → h'.objs.size = s.heap.objs.size + 1 →
      (∀ d o, d ≠ z → d ≠ TO → d ≠ i1 → d ≠ i2 → d ≠ i3 → s.heap.get? d = some o → h'.get? d = some o) → Q (some (.ref s.heap.objs.size)) { s with heap := h' }) :
    wpAny (model prog w) A (pyNext (.ref z)) Q E s := by
  obtain ⟨f0, b1, a, b, c, S, hf⟩ := S
  have hTy : s.TypeIs (.ref z) "zip" := ⟨_, S.hz, rfl⟩
  unfold pyNext
  refine wpAny_bind (wpAny_attempt (wpAny_callSpecial?_slot (name := Str.ofString "__next__") hTy PySem.F.slot_zip_next
    (wpAny_call_entry PySem.F.slot_zip_next hTy PySem.F.entry_zip_next ?_ (PySem.F.args_zip_next_1 _))))
  rcases hf with ⟨rfl, _⟩ | ⟨T, oT, rfl, hTz, hT⟩
  · exact z3_free D S hx hy ht fun h' S' h1 h2 h3 => wpAny_pure (hQ h' ⟨_, _, _, _, _, S', .inr ⟨_, _, rfl, hsize, h1⟩⟩ h1 h2 h3)
  · have hzz := Heap.lt_size S.hz
    refine z3_busy D S hT (by omega) hx hy ht fun h' S' h1 h2 h3 => wpAny_pure (hQ h' ⟨_, _, _, _, _, S', .inr ⟨_, _, rfl, hTz, h3 _ _ (nz (by omega)) (nz (by have := D.a8; omega)) (nz (by have := D.a8; have := D.a7; have := D.a6; have := D.a5; have := D.a4; omega)) (nz (by have := D.a8; have := D.a7; have := D.a6; have := D.a5; omega)) (nz (by have := D.a8; have := D.a7; have := D.a6; omega)) hT⟩⟩ h1 h2 h3)
end
section
variable {prog : Program} {w : World} {A : Around} {s : Shared} {R : Result → Shared → Prop}
/-- the tuples made so far -/
structure Z3G (xs ys zs : Array Value) (lo : Nat) (h : Heap) (as : List Nat) : Prop where
  above : ∀ a ∈ as, lo < a
  rows : ∀ (j : Nat) (a : Nat), as[j]? = some a → ∃ x y t, xs[j]? = some x ∧ ys[j]? = some y ∧ zs[j]? = some t ∧ h.get? a = some (tupO [x, y, t])
theorem z3_loop {S z TI TO i1 i2 i3 l1 l2 l3 n : Nat} {xs ys zs : Array Value} (hh : A.handled = none) (D : Z3Ap z TI TO i1 i2 i3 l1 l2 l3) (hSz : S = z + 1) (hn : xs.size = n) (hn2 : ys.size = n) (hn3 : zs.size = n) (hpos : 0 < n) (hsz : n ≤ sizeLine) (res : Value) {g₁ : Heap}
    (hR : ∀ h' tk acc c as, (∀ d o, d < i1 → g₁.get? d = some o → h'.get? d = some o) → h'.get? S = some { cls := .type "list", dict := none, data := .seq acc c, slots := #[] } → as.length = n → Z3G xs ys zs S h' as →
      acc.toList = as.map Value.ref → R (.ok (.ret res)) { s with heap := h', toks := tk }) :
    ∀ (k i : Nat) (h : Heap) (tk c : Nat) (acc : Array Value) (as : List Nat), n - i = k → i ≤ n → Z3On h z TI TO i1 i2 i3 l1 l2 l3 xs ys zs i → (∀ d o, d < i1 → g₁.get? d = some o → h.get? d = some o) →
      h.get? S = some { cls := .type "list", dict := none, data := .seq acc c, slots := #[] } → acc.toList = as.map Value.ref → as.length = i → Z3G xs ys zs S h as →
      codeAny (model prog w) A (.builtin "list.extend.loop" ⟨[.ref S, .ref z, res], []⟩) R { s with heap := h, toks := tk } := by
  have D' := D
  obtain ⟨d1, d2, d3, d4, d5, d6, d7, d8⟩ := D'
  intro k
  induction k with
  | zero =>
    intro i h tk c acc as hk hi hst hkeep hS hacc hal hG
    have hin : i = n := by omega
    obtain ⟨f0, b1, a, b, c', St, hf⟩ := hst
    rcases hf with ⟨_, h0⟩ | ⟨T, oT, rfl, hTz, hT⟩
    · omega
    refine codeAny_builtin PySem.F.entry_extend_loop ?_
    rw [Around.under_plainId PySem.F.plain_extend_loop _]
    show wpAny _ A.in1 (pyNext (.ref z) >>= _) _ _ _
    refine wpAny_bind (z3_end (s := { s with heap := h, toks := tk }) (A := A.in1) hh D St hT (Array.getElem?_eq_none (by omega)) fun h' he => ?_)
    have up : ∀ d o, z < d → h.get? d = some o → h'.get? d = some o := fun d o hd e => he d o (nz (by omega)) (nz (by omega)) (nz (by omega)) (nz (by omega)) (nz (by omega)) e
    refine wpAny_pure (hR h' tk acc c as (fun d o hd e => he d o (nz (by omega)) (nz (by omega)) (nz (by omega)) (nz (by omega)) (nz (by omega)) (hkeep d o hd e)) (up S _ (by omega) hS) (by omega) ⟨hG.above, fun j a' hj => ?_⟩ hacc)
    obtain ⟨x, y, t, e1, e2, e3, e4⟩ := hG.rows j a' hj
    exact ⟨x, y, t, e1, e2, e3, up a' _ (by have := hG.above a' (List.mem_of_getElem? hj); omega) e4⟩
  | succ k ih =>
    intro i h tk c acc as hk hi hst hkeep hS hacc hal hG
    have hlt : i < n := by omega
    have hx : xs[i]? = some (xs[i]'(by omega)) := Array.getElem?_eq_getElem _
    have hy : ys[i]? = some (ys[i]'(by omega)) := Array.getElem?_eq_getElem _
    have ht : zs[i]? = some (zs[i]'(by omega)) := Array.getElem?_eq_getElem _
    have hsza : acc.size = i := by rw [← Array.length_toList, hacc, List.length_map, hal]
    have hSl : S < h.objs.size := Heap.lt_size hS
    refine codeAny_builtin PySem.F.entry_extend_loop ?_
    rw [Around.under_plainId PySem.F.plain_extend_loop _]
    show wpAny _ A.in1 (pyNext (.ref z) >>= _) _ _ _
    refine wpAny_bind (z3_item (s := { s with heap := h, toks := tk }) D hst hx hy ht (by show z + 1 < h.objs.size; omega) fun h' hst' htu hz hkp => ?_)
    dsimp only at htu hz hkp ⊢
    have hS' := hkp S _ (nz (by omega)) (nz (by omega)) (nz (by omega)) (nz (by omega)) (nz (by omega)) hS
    have up : ∀ b o, b ≠ S → h'.get? b = some o → (h'.update S (Obj.mapSeq (·.push (Value.ref h.objs.size)))).get? b = some o := fun b o hb e => (Heap.get?_update_other _ _ (Ne.symm hb)).trans e
    show wpAny _ A.in1 (updateSeq S (·.push (Value.ref h.objs.size)) >>= _) _ _ _
    refine wpAny_bind ?_
    refine wpAny_updateSeq hS' rfl (wpAny_pure ⟨plainId_quiet PySem.F.plain_extend_loop _, ih (i + 1) _ tk _ (acc.push (Value.ref h.objs.size)) (as ++ [h.objs.size]) (by omega) hlt ?_
      (fun d o hd e => up d o (nz (by omega)) (hkp d o (nz (by omega)) (nz (by omega)) (nz (by omega)) (nz (by omega)) (nz (by omega)) (hkeep d o hd e))) (Heap.get?_update_self _ hS' rfl) (by rw [Array.toList_push, hacc, List.map_append]; rfl) (by rw [List.length_append, hal]; rfl) ⟨?_, ?_⟩⟩) (by rw [hsza]; omega) (by show (acc.push (Value.ref h.objs.size)).size ≤ sizeLine + 1; rw [Array.size_push, hsza]; omega)
    · obtain ⟨f0, b1, a, b, c', St, hf⟩ := hst'
      refine ⟨f0, b1, a, b, c', St.at (fun d o hd e => up d o (nz (by omega)) e) D, ?_⟩
      rcases hf with ⟨e, h0⟩ | ⟨T, oT, e, hTz, hT⟩
      · exact .inl ⟨e, h0⟩
      · exact .inr ⟨T, oT, e, hTz, up T _ (nz (by omega)) hT⟩
    · intro a ha
      rcases List.mem_append.mp ha with ha | ha
      · exact hG.above a ha
      · rw [List.mem_singleton.mp ha]; exact hSl
    · intro j b hj
      rcases Nat.lt_trichotomy j as.length with h1 | h1 | h1
      · rw [List.getElem?_append_left h1] at hj
        obtain ⟨x, y, t, e1, e2, e3, e4⟩ := hG.rows j b hj
        have hb := hG.above b (List.mem_of_getElem? hj)
        exact ⟨x, y, t, e1, e2, e3, up b _ (nz (by omega)) (hkp b _ (nz (by omega)) (nz (by omega)) (nz (by omega)) (nz (by omega)) (nz (by omega)) e4)⟩
      · subst h1
        have hb : h.objs.size = b := by simpa using hj
        subst hb
        exact ⟨_, _, _, by rw [hal]; exact hx, by rw [hal]; exact hy, by rw [hal]; exact ht, up _ _ (nz (by omega)) htu⟩
      · have hnone : (as ++ [h.objs.size])[j]? = none := List.getElem?_eq_none (by rw [List.length_append, List.length_singleton]; omega)
        rw [hnone] at hj; cases hj
end
end Mine

-- Z3d
namespace Mine
open PySem.Calls PySem.Spec
theorem zip_no_len : typeLookup (.type "zip") "__len__" = pure none := by rw [typeLookup_type, builtinLookup_eq_fast]; kernel_rfl
theorem zip_no_hint : typeLookup (.type "zip") "__length_hint__" = pure none := by rw [typeLookup_type, builtinLookup_eq_fast]; kernel_rfl
structure Z3Here (h : Heap) (z : Nat) (l1 l2 l3 : Nat) (xs ys zs : Array Value) : Prop where
  size : h.objs.size = z + 1
  st : ∃ TI TO i1 i2 i3, Z3On h z TI TO i1 i2 i3 l1 l2 l3 xs ys zs 0 ∧ Z3Ap z TI TO i1 i2 i3 l1 l2 l3
section
variable {prog : Program} {w : World} {A : Around} {E : Value → Shared → Prop} {s : Shared} {h₀ : Heap} {L : Addr} {m : Str → Option Value} {news : Led}
theorem zip3_K {l1 l2 l3 : Addr} {v1 v2 v3 : List Value} {n1 n2 n3 : Nat} {Q : Value → Shared → Prop} (F : Fr h₀ L s.heap m) (N : News h₀ L s.heap news) (hl1 : (l1, listOf v1.toArray n1) ∈ news) (hl2 : (l2, listOf v2.toArray n2) ∈ news) (hl3 : (l3, listOf v3.toArray n3) ∈ news)
    (h : ∀ (z i1 : Nat) h', Fr h₀ L h' m → News h₀ L h' news → (∀ p ∈ news, p.1 < i1) → L < i1 → (∃ TI TO i2 i3, Z3On h' z TI TO i1 i2 i3 l1 l2 l3 v1.toArray v2.toArray v3.toArray 0 ∧ Z3Ap z TI TO i1 i2 i3 l1 l2 l3) → h'.objs.size = z + 1 → Q (.ref z) { s with heap := h' }) :
    wpAny (model prog w) A (call (.type "zip") [.ref l1, .ref l2, .ref l3]) Q E s := by
  have k1 : s.heap.IsList l1 v1.toArray := ⟨_, (N _ hl1).1, rfl, n1, rfl⟩
  have k2 : s.heap.IsList l2 v2.toArray := ⟨_, (N _ hl2).1, rfl, n2, rfl⟩
  have k3 : s.heap.IsList l3 v3.toArray := ⟨_, (N _ hl3).1, rfl, n3, rfl⟩
  have b1 := Heap.lt_size (N _ hl1).1
  have b2 := Heap.lt_size (N _ hl2).1
  have b3 := Heap.lt_size (N _ hl3).1
  refine call_zip3 k1 k2 k3 fun z6 g6 g4 g5 e1 e2 e3 hk => ?_
  refine h (s.heap.objs.size + 5) s.heap.objs.size _ ⟨(F.ns.keeps hk), fun b o e => hk b o (F.keep b o e), F.above⟩ (fun p hp => ⟨hk _ _ (N p hp).1, (N p hp).2⟩) (fun p hp => Heap.lt_size (N p hp).1) F.ns.lt ⟨s.heap.objs.size + 3, s.heap.objs.size + 4, s.heap.objs.size + 1, s.heap.objs.size + 2, ?_, ?_⟩ z6
  · exact ⟨_, _, _, _, _, ⟨g6, g4, g5, e1, e2, e3, k1.at fun o e => hk _ _ e, k2.at fun o e => hk _ _ e, k3.at fun o e => hk _ _ e⟩, .inl ⟨rfl, rfl⟩⟩
  · exact ⟨b1, b2, b3, by omega, by omega, by omega, by omega, by omega⟩
abbrev madeRows (as : List Nat) (xs ys zs : Array Value) : Led := as.zipIdx.map fun p => (p.1, tupO [xs.getD p.2 .none, ys.getD p.2 .none, zs.getD p.2 .none])
theorem ext_zip3 {R : Result → Shared → Prop} {l1 l2 l3 : Addr} {S z TI TO i1 i2 i3 n : Nat} {xs ys zs : Array Value} (hh : A.handled = none) (hn : xs.size = n) (hn2 : ys.size = n) (hn3 : zs.size = n) (hpos : 0 < n) (hsz : n ≤ sizeLine)
    (S0 : Z3On s.heap z TI TO i1 i2 i3 l1 l2 l3 xs ys zs 0) (D : Z3Ap z TI TO i1 i2 i3 l1 l2 l3) (hSz : S = z + 1) (c₀ : Nat) (hS : s.heap.get? S = some { cls := .type "list", data := .seq #[] c₀ })
    (hR : ∀ h' tk acc c as, (∀ d o, d < i1 → s.heap.get? d = some o → h'.get? d = some o) → h'.get? S = some { cls := .type "list", dict := none, data := .seq acc c, slots := #[] } → as.length = n → Z3G xs ys zs S h' as →
      acc.toList = as.map Value.ref → R (.ok (.ret .none)) { s with heap := h', toks := tk }) :
    wpAny (model prog w) A.in1 (Builtin.List.listExtendWith (.ref S) (.ref z) .none)
      (fun fin s' => match fin with | .done f => R (.ok f) s' | .again c' => c'.quiet = true ∧ codeAny (model prog w) A c' R s') (fun e s' => R (.error e) s') s := by
  have D' := D
  obtain ⟨d1, d2, d3, d4, d5, d6, d7, d8⟩ := D'
  have hTy : s.TypeIs (.ref z) "zip" := let ⟨_, _, _, _, _, St, _⟩ := S0; ⟨_, St.hz, rfl⟩
  unfold Builtin.List.listExtendWith
  refine wpAny_bind (wpAny_typeOf (T := "zip") hTy ?_)
  have h1 : Builtin.List.listSameRef (.ref S) (.ref z) = false := by
    have : (S : Nat) ≠ z := by omega
    simp [Builtin.List.listSameRef, this]
  have h2 : (Value.type "zip" == Value.type "list") = false := by decide
  have h3 : (Value.type "zip" == Value.type "tuple") = false := by decide
  simp only [h1, h2, h3, Bool.or_false, Bool.false_eq_true, if_false]
  refine wpAny_bind ?_
  refine wpAny_pyIter_slot hTy PySem.F.slot_zip_iter (wpAny_call_entry PySem.F.slot_zip_iter hTy PySem.F.entry_zip_iter ?_ (PySem.F.args_zip_iter_1 _))
  show wpAny _ _ (ret (.ref z)) _ _ _
  refine wpAny_pure ⟨_, rfl, "zip", _, hTy, PySem.F.slot_zip_next.lookup, ?_⟩
  refine wpAny_bind (wpAny_holding ?_)
  unfold Builtin.List.listLengthHint
  refine wpAny_bind (wpAny_specialOf hTy zip_no_len ?_)
  show wpAny _ _ (specialOf (Value.ref z) (Str.ofString "__length_hint__") >>= _) _ _ _
  refine wpAny_bind (wpAny_specialOf hTy zip_no_hint ?_)
  refine wpAny_pure ?_
  show wpAny _ A.in1 (rule "list.extend.makes-room" >>= fun _ => Builtin.List.listTouch (.ref S) >>= fun _ =>
    again (.builtin "list.extend.loop" ⟨[.ref S, .ref z, .none], []⟩)) _ _ _
  refine wpAny_bind (wpAny_rule ?_)
  refine wpAny_bind ?_
  show wpAny _ A.in1 (updateSeq S (·.push .none) >>= fun _ => updateSeq S (·.pop)) _ _ _
  refine wpAny_bind (wpAny_updateSeq hS rfl ?_)
  have hS₂ := Heap.get?_update_self (Obj.mapSeq (·.push Value.none)) hS rfl
  refine wpAny_updateSeq (hz := by seq_fits) hS₂ rfl ?_
  have hS₃ := Heap.get?_update_self (Obj.mapSeq (·.pop)) hS₂ rfl
  have oth : ∀ b o, b ≠ S → s.heap.get? b = some o → ((s.heap.update S (Obj.mapSeq (·.push Value.none))).update S (Obj.mapSeq (·.pop))).get? b = some o :=
    fun b o hb e => (Heap.get?_update_other _ _ (Ne.symm hb)).trans ((Heap.get?_update_other _ _ (Ne.symm hb)).trans e)
  refine wpAny_pure ⟨plainId_quiet PySem.F.plain_extend_loop _, z3_loop (s := s) (g₁ := s.heap) hh D hSz hn hn2 hn3 hpos hsz .none hR n 0 _ s.toks _ #[] [] (by omega) (by omega) ?_ (fun d o hd e => oth d o (nz (by omega)) e) hS₃ rfl rfl ⟨fun _ ha => (nomatch ha), fun j a hj => by simp at hj⟩⟩
  obtain ⟨f0, b1, a, b, c', St, hf⟩ := S0
  refine ⟨f0, b1, a, b, c', St.at (fun d o hd e => oth d o (nz (by omega)) e) D, ?_⟩
  rcases hf with e | ⟨T, oT, e, hTz, hT⟩
  · exact .inl e
  · exact .inr ⟨T, oT, e, hTz, oth T _ (nz (by omega)) hT⟩
theorem list_zip3 {l1 l2 l3 : Addr} {z i1 n : Nat} {xs ys zs : Array Value} {Q : Value → Shared → Prop} (hh : A.handled = none) (F : Fr h₀ L s.heap m) (N : News h₀ L s.heap news) (hn : xs.size = n) (hn2 : ys.size = n) (hn3 : zs.size = n) (hpos : 0 < n) (hsz : n ≤ sizeLine)
    (hlow : ∀ p ∈ news, p.1 < i1) (hL : L < i1) (H : ∃ TI TO i2 i3, Z3On s.heap z TI TO i1 i2 i3 l1 l2 l3 xs ys zs 0 ∧ Z3Ap z TI TO i1 i2 i3 l1 l2 l3) (hz : s.heap.objs.size = z + 1)
    (h : ∀ D c as h' tk, Fr h₀ L h' m → News h₀ L h' ((D, listOf (as.map Value.ref).toArray c) :: (madeRows as xs ys zs ++ news)) → as.length = n → (∀ p ∈ news, p.1 < D) → (∀ a ∈ as, D < a) → Q (.ref D) { s with heap := h', toks := tk }) :
    wpAny (model prog w) A (call (.type "list") [.ref z]) Q E s := by
  obtain ⟨TI, TO, i2, i3, St, D⟩ := H
  have D' := D
  obtain ⟨d1, d2, d3, d4, d5, d6, d7, d8⟩ := D'
  refine callType_codes (Q₁ := fun obj s₁ => obj = .ref s.heap.objs.size ∧ s₁ = { s with heap := s.heap.push { cls := .type "list", data := .seq #[] } }) PySem.F.called_list (PySem.F.typeCall_list_1 _) PySem.F.entry_list_init
    (code_list_new _ ⟨rfl, rfl⟩) fun obj s₁ h₁ => ?_
  obtain ⟨rfl, rfl⟩ := h₁
  have hS : (s.heap.push { cls := .type "list", data := .seq #[] }).get? s.heap.objs.size = some { cls := .type "list", data := .seq #[] } := Heap.get?_push_size _ rfl
  refine ⟨⟨_, hS, rfl⟩, PySem.F.args_list_init_2 _ _, ?_⟩
  show wpAny _ _ (do let old ← Builtin.List.listItems (.ref s.heap.objs.size); Builtin.List.listUpdate (.ref s.heap.objs.size) (fun _ => #[]); letGo old.toList.reverse; Builtin.List.listExtendWith (.ref s.heap.objs.size) (.ref z) .none) _ _ _
  refine wpAny_bind ?_
  unfold Builtin.List.listItems
  refine wpAny_bind (wpAny_seqItems hS rfl (wpAny_pure ?_))
  show wpAny _ _ (updateSeq s.heap.objs.size (fun _ => #[]) >>= fun _ => letGo (#[] : Array Value).toList.reverse >>= fun _ => Builtin.List.listExtendWith (.ref s.heap.objs.size) (.ref z) .none) _ _ _
  refine wpAny_bind (wpAny_updateSeq hS rfl ?_)
  have hS₂ := Heap.get?_update_self (Obj.mapSeq (fun _ => (#[] : Array Value))) hS rfl
  refine wpAny_bind (wpAny_letGo ?_)
  have oth : ∀ b o, b ≠ s.heap.objs.size → s.heap.get? b = some o → ((s.heap.push { cls := .type "list", data := .seq #[] }).update s.heap.objs.size (Obj.mapSeq (fun _ => (#[] : Array Value)))).get? b = some o :=
    fun b o hb e => (Heap.get?_update_other _ _ (Ne.symm hb)).trans (Heap.get?_push_of_some _ e)
  have hlt : ∀ b o, s.heap.get? b = some o → b ≠ s.heap.objs.size := fun b o e => Nat.ne_of_lt (Heap.lt_size e)
  refine ext_zip3 (A := A.in1) (S := s.heap.objs.size) (z := z) (i1 := i1) hh hn hn2 hn3 hpos hsz ?_ D hz _ hS₂ fun h' tk acc c as hk hS' hal hG hacc => ?_
  · obtain ⟨f0, b1, a, b, c', S, hf⟩ := St
    refine ⟨f0, b1, a, b, c', S.at (fun d o hd e => oth d o (hlt d o e) e) D, ?_⟩
    rcases hf with e | ⟨T, oT, e, hTz, hT⟩
    · exact .inl e
    · exact .inr ⟨T, oT, e, hTz, oth T _ (hlt T _ hT) hT⟩
  · have keep : ∀ d o, d < i1 → s.heap.get? d = some o → h'.get? d = some o := fun d o hd e => hk d o hd (oth d o (hlt d o e) e)
    have hLi : h₀.objs.size ≤ L := F.above
    have fresh : ∀ b, L < b → h₀.get? b = none := fun b hb => Heap.get?_none_of_le (Nat.le_trans F.above (Nat.le_of_lt hb))
    have hzL : L < s.heap.objs.size := F.ns.lt
    refine ⟨rfl, h s.heap.objs.size c as h' tk ⟨F.ns.at' fun o e => keep L o hL e, fun b o e => keep b o (Nat.lt_of_lt_of_le (Heap.lt_size e) (Nat.le_trans F.above (Nat.le_of_lt hL))) (F.keep b o e), F.above⟩ ?_ hal (fun p hp => Heap.lt_size (N p hp).1) hG.above⟩
    intro p hp
    rcases List.mem_cons.mp hp with rfl | hp
    · refine ⟨?_, Nat.ne_of_gt hzL, fresh _ hzL⟩
      rw [hS', ← hacc]
    · rcases List.mem_append.mp hp with hp | hp
      · obtain ⟨⟨a, j⟩, hq, rfl⟩ := List.mem_map.mp hp
        have hj : as[j]? = some a := by
          have := List.mem_zipIdx' hq
          simpa [List.getElem?_eq_some_iff] using ⟨this.1, this.2.symm⟩
        obtain ⟨x, y, t, e1, e2, e3, e4⟩ := hG.rows j a hj
        have ha := hG.above a (List.mem_of_getElem? hj)
        refine ⟨?_, Nat.ne_of_gt (Nat.lt_trans hzL ha), fresh _ (Nat.lt_trans hzL ha)⟩
        show h'.get? a = _
        rw [e4]
        simp [Array.getD_eq_getD_getElem?, e1, e2, e3]
      · exact ⟨keep _ _ (hlow p hp) (N p hp).1, (N p hp).2⟩
end
end Mine

-- S1
namespace Mine
def sqRight : List Int := [0, 1, 1, 0, 0, 0, 1, 1, 2, 2, 3, 3, 3, 2, 2, 3]
def sqUp : List Int := [0, 0, 1, 1, 2, 3, 3, 2, 2, 3, 3, 2, 1, 1, 0, 0]
def sqTurn : List Int := [0, 1, 1, 2, 1, 0, 0, 3, 1, 0, 0, 3, 2, 3, 3, 0]
def SqAt (sq : Addr) (news : Led) : Prop := ∃ (vs : List Value) (nn : Nat), (sq, listOf vs.toArray nn) ∈ news ∧ vs.length = 16 ∧ ∀ i : Nat, i < 16 → ∃ q tr tu tm, vs[i]? = some (.ref q) ∧ (q, tupO [.int (sqRight.getD i 0) tr, .int (sqUp.getD i 0) tu, .int (sqTurn.getD i 0) tm]) ∈ news
theorem SqAt.mono {sq : Addr} {n n' : Led} (h : SqAt sq n) (hs : ∀ p ∈ n, p ∈ n') : SqAt sq n' := by
  obtain ⟨vs, nn, h1, h2, h3⟩ := h
  exact ⟨vs, nn, hs _ h1, h2, fun i hi => let ⟨q, tr, tu, tm, e, hm⟩ := h3 i hi; ⟨q, tr, tu, tm, e, hs _ hm⟩⟩
def hstep (P : Int × Int × Int) (i : Nat) : Int × Int × Int :=
  let r := sqRight.getD i 0
  let u := sqUp.getD i 0
  let r1 := if P.2.2.fmod 2 = 1 then u else r
  let u1 := if P.2.2.fmod 2 = 1 then r else u
  let r2 := if 1 < P.2.2 then 3 - r1 else r1
  let u2 := if 1 < P.2.2 then 3 - u1 else u1
  (4 * P.1 + r2, 4 * P.2.1 + u2, Builtin.bitXor P.2.2 (sqTurn.getD i 0))
def Made3 (news : Led) (P : Int × Int × Int) (r : Value) (n : Led) : Prop := ∃ t' tx ty td, r = .ref t' ∧ (∀ p ∈ news, p.1 < t') ∧ n = (t', tupO [.int P.1 tx, .int P.2.1 ty, .int P.2.2 td]) :: news
theorem made3_end {h₀ h' : Heap} {L t' : Addr} {m : Str → Option Value} {news rest : Led} {s : Shared} {Q : Value → Shared → Prop} {P : Int × Int × Int} {X Y D : Int} {tx ty td : Tok} {tk' : Nat}
    (hret : ∀ r news' h' tk', Fr h₀ L h' m → News h₀ L h' news' → Made3 news P r news' → Q r { s with heap := h', toks := tk' }) (F : Fr h₀ L h' m) (N : News h₀ L h' ((t', tupO [.int X tx, .int Y ty, .int D td]) :: rest))
    (hs : ∀ p ∈ news, p ∈ rest) (hlt : ∀ p ∈ news, p.1 < t') (hX : X = P.1) (hY : Y = P.2.1) (hD : D = P.2.2) : Q (.ref t') { s with heap := h', toks := tk' } := by
  subst hX hY hD
  refine hret _ _ h' tk' F (News.sub N ?_) ⟨t', tx, ty, td, rfl, hlt, rfl⟩
  intro p hp
  rcases List.mem_cons.mp hp with rfl | hp
  · exact .head _
  · exact .tail _ (hs p hp)
set_option maxRecDepth 100000 in
set_option maxHeartbeats 8000000 in
theorem law_step {w : World} {p : Program} {loose : List Str} {mean : ExcName → Option Value} {mg mb : Str → Option Value} (news : Led) (sq tat : Addr) (x y d : Int) (tx ty td tl : Tok) (i : Nat) (hi : i < 16)
  (hsq : SqAt sq news) (hat : (tat, tupO [.int x tx, .int y ty, .int d td]) ∈ news) :
  FnSpec Challenge.rw_nq0005_01.row.prog w (hd.heap_39 w.params) p loose mean mg mb (.ref 44) [.ref sq, .ref tat, .int (65 + (i : Int)) tl] 1 8 news (Made3 news (hstep (x, y, d) i)) := by
  obtain ⟨vs, nn, hvs, hlen, hsq⟩ := hsq
  obtain ⟨q, tr, tu, tm, hq, hqm⟩ := hsq i hi
  have hq' : vs[(65 + (i : Int) - 65).toNat]? = some (.ref q) := by rw [show (65 + (i : Int) - 65).toNat = i by omega]; exact hq
  k_fill
  intro dp un gd cn cs a ccd cl outer A₀ base h₀ L m s Q E B F X N T hk hd' hu hret
  refine wpAny_call ?_
  k_dflt cell_enter
  k_with_none
  k_with "subscriptTail Name BinOp" => (k_here; refine item_list (by k_asm) hvs (by omega) (by omega) hq' ?_)
  k_steps
  all_goals refine made3_end hret (by k_asm) (by assumption) ?_ ?_ ?_ ?_ ?_
  all_goals first
    | exact fun p hp => hp
    | exact fun p hp => .tail _ hp
    | exact fun p hp => .tail _ (.tail _ hp)
    | assumption
    | exact ktn_ltOf (And.right (And.right (by assumption)))
    | exact ktn_ltOf (And.right (by assumption))
    | rfl
    | ((simp only [hstep]); (repeat' split) <;> first | rfl | (exfalso; omega) | omega)
end Mine

-- Q1
namespace Mine
theorem sq_of {as : List Nat} {xs ys zs : Array Value} {D : Addr} {c : Nat} (hal : as.length = 16) (h1 : ∀ i : Nat, i < 16 → ∃ t, xs.getD i .none = .int (sqRight.getD i 0) t) (h2 : ∀ i : Nat, i < 16 → ∃ t, ys.getD i .none = .int (sqUp.getD i 0) t) (h3 : ∀ i : Nat, i < 16 → ∃ t, zs.getD i .none = .int (sqTurn.getD i 0) t) :
    SqAt D ((D, listOf (as.map Value.ref).toArray c) :: madeRows as xs ys zs) := by
  refine ⟨as.map Value.ref, c, .head _, by simpa using hal, fun i hi => ?_⟩
  obtain ⟨t1, e1⟩ := h1 i hi
  obtain ⟨t2, e2⟩ := h2 i hi
  obtain ⟨t3, e3⟩ := h3 i hi
  have hj : i < as.length := by omega
  refine ⟨as[i], t1, t2, t3, by simp [hj], .tail _ (List.mem_map.mpr ⟨(as[i], i), ?_, ?_⟩)⟩
  · exact List.mem_zipIdx_iff_getElem?.mpr (by simp [hj])
  · rw [e1, e2, e3]
theorem squares_end {h₀ h' : Heap} {L D : Addr} {m : Str → Option Value} {news : Led} {s : Shared} {Q : Value → Shared → Prop} {tk' c : Nat} {as : List Nat} {xs ys zs : Array Value} {q1 q2 q3 : Addr × Obj}
    (hret : ∀ r news' h' tk', Fr h₀ L h' m → News h₀ L h' news' → (∃ D more, r = .ref D ∧ news' = more ++ news ∧ SqAt D more ∧ ∀ p ∈ more, ∀ q ∈ news, q.1 < p.1) → Q r { s with heap := h', toks := tk' }) (F : Fr h₀ L h' m)
    (N : News h₀ L h' ((D, listOf (as.map Value.ref).toArray c) :: (madeRows as xs ys zs ++ (q1 :: q2 :: q3 :: news)))) (hal : as.length = 16) (hlo : ∀ p ∈ q1 :: q2 :: q3 :: news, p.1 < D) (hup : ∀ a ∈ as, D < a)
    (h1 : ∀ i : Nat, i < 16 → ∃ t, xs.getD i .none = .int (sqRight.getD i 0) t) (h2 : ∀ i : Nat, i < 16 → ∃ t, ys.getD i .none = .int (sqUp.getD i 0) t) (h3 : ∀ i : Nat, i < 16 → ∃ t, zs.getD i .none = .int (sqTurn.getD i 0) t) :
    Q (.ref D) { s with heap := h', toks := tk' } := by
  refine hret _ (((D, listOf (as.map Value.ref).toArray c) :: madeRows as xs ys zs) ++ news) _ _ F (News.sub N ?_) ⟨D, _, rfl, rfl, sq_of hal h1 h2 h3, ?_⟩
  · intro p hp
    rcases List.mem_append.mp hp with hp | hp
    · rcases List.mem_cons.mp hp with rfl | hp
      · exact .head _
      · exact .tail _ (List.mem_append_left _ hp)
    · exact .tail _ (List.mem_append_right _ (.tail _ (.tail _ (.tail _ hp))))
  · intro p hp q hq
    have h9 : q.1 < D := hlo q (.tail _ (.tail _ (.tail _ hq)))
    rcases List.mem_cons.mp hp with rfl | hp
    · exact h9
    · obtain ⟨⟨a, j⟩, hq', rfl⟩ := List.mem_map.mp hp
      exact Nat.lt_trans h9 (hup a (List.fst_mem_of_mem_zipIdx hq'))
theorem fin16 {P : Nat → Prop} (h0 : P 0) (h1 : P 1) (h2 : P 2) (h3 : P 3) (h4 : P 4) (h5 : P 5) (h6 : P 6) (h7 : P 7) (h8 : P 8) (h9 : P 9) (h10 : P 10) (h11 : P 11) (h12 : P 12) (h13 : P 13) (h14 : P 14) (h15 : P 15) : ∀ i, i < 16 → P i
  | 0, _ => h0 | 1, _ => h1 | 2, _ => h2 | 3, _ => h3 | 4, _ => h4 | 5, _ => h5 | 6, _ => h6 | 7, _ => h7 | 8, _ => h8 | 9, _ => h9 | 10, _ => h10 | 11, _ => h11 | 12, _ => h12 | 13, _ => h13 | 14, _ => h14 | 15, _ => h15
  | _ + 16, h => absurd h (by omega)
set_option maxRecDepth 100000 in
set_option maxHeartbeats 8000000 in
theorem law_squares {w : World} {p : Program} {loose : List Str} {mean : ExcName → Option Value} {mg mb : Str → Option Value} (news : Led) :
  FnSpec Challenge.rw_nq0005_01.row.prog w (hd.heap_39 w.params) p loose mean mg mb (.ref 37) [] 1 8 news (fun r n => ∃ D more, r = .ref D ∧ n = more ++ news ∧ SqAt D more ∧ ∀ p ∈ more, ∀ q ∈ news, q.1 < p.1) := by
  k_fill
  intro dp un gd cn cs a ccd cl outer A₀ base h₀ L m s Q E B F X N T hk hd' hu hret
  refine wpAny_call ?_
  k_dflt cell_enter
  k_with_none
  k_with "call type:zip" => (k_here; refine zip3_K (by k_asm) (by k_asm) (by k_mem) (by k_mem) (by k_mem) ?_; intro z' i1' h' F' N' lo' hL' H' hz')
  k_with "call type:list" => (k_here; refine list_zip3 (n := 16) rfl (by k_asm) (by k_asm) rfl rfl rfl (by decide) (by rw [sizeLine_eq]; decide) lo' hL' H' hz' ?_; intro D' c' as' h' tk' F' N' hal' l1 hup')
  k_steps
  refine squares_end hret (by k_asm) (by assumption) (by assumption) (by assumption) (by assumption) ?h1 ?h2 ?h3
  case h1 => exact fin16 ⟨_, rfl⟩ ⟨_, rfl⟩ ⟨_, rfl⟩ ⟨_, rfl⟩ ⟨_, rfl⟩ ⟨_, rfl⟩ ⟨_, rfl⟩ ⟨_, rfl⟩ ⟨_, rfl⟩ ⟨_, rfl⟩ ⟨_, rfl⟩ ⟨_, rfl⟩ ⟨_, rfl⟩ ⟨_, rfl⟩ ⟨_, rfl⟩ ⟨_, rfl⟩
  case h2 => exact fin16 ⟨_, rfl⟩ ⟨_, rfl⟩ ⟨_, rfl⟩ ⟨_, rfl⟩ ⟨_, rfl⟩ ⟨_, rfl⟩ ⟨_, rfl⟩ ⟨_, rfl⟩ ⟨_, rfl⟩ ⟨_, rfl⟩ ⟨_, rfl⟩ ⟨_, rfl⟩ ⟨_, rfl⟩ ⟨_, rfl⟩ ⟨_, rfl⟩ ⟨_, rfl⟩
  case h3 => exact fin16 ⟨_, rfl⟩ ⟨_, rfl⟩ ⟨_, rfl⟩ ⟨_, rfl⟩ ⟨_, rfl⟩ ⟨_, rfl⟩ ⟨_, rfl⟩ ⟨_, rfl⟩ ⟨_, rfl⟩ ⟨_, rfl⟩ ⟨_, rfl⟩ ⟨_, rfl⟩ ⟨_, rfl⟩ ⟨_, rfl⟩ ⟨_, rfl⟩ ⟨_, rfl⟩
end Mine

-- R1
namespace Mine
set_option maxRecDepth 100000 in
set_option maxHeartbeats 8000000 in
theorem reduce_bytes {w : World} {p : Program} {loose : List Str} {mean : ExcName → Option Value} {mg mb : Str → Option Value} (news : Led) (fa : Addr) (b : Array UInt8) (tb : Tok) (v0 : Value) (d u : Nat) (Inv : Nat → Value → Led → Prop) (h0 : Inv 0 v0 news)
  (hv : Told v0 news) {oc : Value} {od : Option Addr} {fd : FuncData} {sl : Array (Option Value)} (hfun : ∀ i v nx, Inv i v nx → (fa, (⟨oc, od, .func fd, sl⟩ : Obj)) ∈ nx)
  (hf : ∀ i v ch tc nx I oI, b[i]? = some ch → Inv i v nx → (∀ p ∈ nx, p.1 ≠ I) → FnSpec Challenge.rw_nq0005_01.row.prog w (hd.heap_39 w.params) p loose mean mg mb (.ref fa) [v, .int (ch.toNat : Int) tc] d u ((I, oI) :: nx) (fun r n => ∃ nx', n = (I, oI) :: nx' ∧ (∀ p ∈ nx', p.1 ≠ I) ∧ Inv (i + 1) r nx')) :
  FnSpec Challenge.rw_nq0005_01.row.prog w (hd.heap_39 w.params) p loose mean mg mb (.ref 30) [.ref fa, .bytes b tb, v0] (d + 1) (u + 8) news (fun r n => Inv b.size r n) := by
  k_fill
  intro dp un gd cn cs a ccd cl outer A₀ base h₀ L m s Q E B F X N T hk hd' hu hret
  refine wpAny_call ?_
  refine' code_def ?k1 ?k2 ?k3 ?k4 ?k5 ?kA ?kF ?kK ?k6 ?k7 ?k8 ?k9 ?kB ?_ ?c2 ?c3 ?c4 ?c5
  case kA => exact rfl
  case kF => exact rfl
  case kK => assumption
  case k1 => k_asm
  case k2 => k_asm
  case k3 => k_asm
  case k4 => k_asm
  case k5 => k_asm
  case k6 => k_is
  case k7 => k_is
  case k8 => ktr_room
  case k9 => exact binds_K (by k_in) rfl (by k_is) rfl rfl rfl
  case c5 => decide
  case kB => exact locs rfl
  case c2 => exact rfl
  case c3 => exact rfl
  case c4 => exact rfl
  k_whole
  intro g' L' h' FG' F' N' B' X' T'
  try dsimp only
  try k_lift B'
  try k_fold
  k_with_none
  k_with "call builtin:iter" => (k_here; refine iter_bytes (by k_asm) (by k_asm) ?_; intro I' h' F' N' l1; try k_lt l1)
  k_with "compareOp Is" => (k_here; refine is_missing (Told.more hv) (by k_asm) (by k_asm) (X' 22 _ rfl) (by decide) ?_)
  k_with "exec For" => (k_here; (rename Fr _ _ _ _ => lF'); (with_unfolding_all refine' For_invVF lF' ?k1 ?k2 ?_; (case k1 => exact rfl); (case k2 => exact rfl); k_whole))
  k_with "pyIter ref" => (
    k_here
    (rename Fr _ _ _ _ => lF'); (rename News _ _ _ _ => lN')
    with_unfolding_all refine loop_bytes (fun v => [(Str.ofString "value", v)]) [] Inv v0 rfl lF' lN' ?hnI ?hk h0 ?turn ?done
    case hnI => exact fun p hp => Nat.ne_of_lt (by first | exact l1 p hp | exact (by assumption : ∀ p ∈ news, p.1 < _) p hp)
    case hk => kst_all
    case' turn =>
      intro i v ch tc nx u' h' tk' oI hch hInv hnx F' N'
      have hfa : (fa, (⟨oc, od, .func fd, sl⟩ : Obj)) ∈ (I', oI) :: nx := .tail _ (hfun _ _ _ hInv)
      clear lF' lN'
    case' done =>
      intro v nx u' h' tk' hInv hnx F' N'
      clear lF' lN')
  k_with "callWith ref" => (k_here; refine callWith_F (FnAt.of (by k_asm) (by assumption)) ?_)
  k_with "And" => ((with_reducible show FnAt _ _ ∧ _); refine ⟨FnAt.of (by k_asm) (by assumption), ?_⟩; try dsimp only [List.nil_append, List.cons_append])
  k_with "call ref" => (
    k_here
    refine' hf _ _ _ _ _ _ _ (by assumption) (by assumption) (by assumption) _ _ _ _ _ _ _ _ _ _ _ _ _ _ _ _ _ ?k1 ?k2 ?k3 ?k4 ?k5 ?kK ?kd ?ku ?kR
    case k1 => k_asm
    case k2 => k_asm
    case k3 => k_asm
    case k4 => k_asm
    case k5 => k_asm
    case kK => first | exact rfl | assumption
    case kd => ktr_room
    case ku => ktr_units
    intro r' n' h' tk' F' N' hR'
    obtain ⟨nx', rfl, hnx', hInv'⟩ := hR')
  k_steps
  · exact hret _ _ _ _ (by k_asm) (by k_asm) (by assumption)
  · exact iturn_next _ _ (by assumption) (by assumption) (by assumption) (by kst_all) (by intro z h1 h2 h3; (simp only [List.forall_mem_cons, List.not_mem_nil, false_implies, implies_true, and_true, ne_eq] at h2); simp [kstB, h1, h2]) (by assumption)
end Mine

-- R1b
namespace Mine
set_option maxRecDepth 100000 in
set_option maxHeartbeats 8000000 in
theorem reduce_list {w : World} {p : Program} {loose : List Str} {mean : ExcName → Option Value} {mg mb : Str → Option Value} (news : Led) (fa l : Addr) (nn : Nat) (v0 : Value) (rest : List Value) (d u : Nat) (Inv : Nat → Value → Led → Prop) (h0 : Inv 0 v0 news)
  (hl : ∀ i v nx, Inv i v nx → (l, listOf (v0 :: rest).toArray nn) ∈ nx) {oc : Value} {od : Option Addr} {fd : FuncData} {sl : Array (Option Value)} (hfun : ∀ i v nx, Inv i v nx → (fa, (⟨oc, od, .func fd, sl⟩ : Obj)) ∈ nx)
  (hf : ∀ i v e nx I oI, rest[i]? = some e → Inv i v nx → (∀ p ∈ nx, p.1 ≠ I) → FnSpec Challenge.rw_nq0005_01.row.prog w (hd.heap_39 w.params) p loose mean mg mb (.ref fa) [v, e] d u ((I, oI) :: nx) (fun r n => ∃ nx', n = (I, oI) :: nx' ∧ (∀ p ∈ nx', p.1 ≠ I) ∧ Inv (i + 1) r nx')) :
  FnSpec Challenge.rw_nq0005_01.row.prog w (hd.heap_39 w.params) p loose mean mg mb (.ref 30) [.ref fa, .ref l] (d + 1) (u + 8) news (fun r n => Inv rest.length r n) := by
  k_fill
  intro dp un gd cn cs a ccd cl outer A₀ base h₀ L m s Q E B F X N T hk hd' hu hret
  refine wpAny_call ?_
  refine' code_def ?k1 ?k2 ?k3 ?k4 ?k5 ?kA ?kF ?kK ?k6 ?k7 ?k8 ?k9 ?kB ?_ ?c2 ?c3 ?c4 ?c5
  case kA => exact rfl
  case kF => exact rfl
  case kK => assumption
  case k1 => k_asm
  case k2 => k_asm
  case k3 => k_asm
  case k4 => k_asm
  case k5 => k_asm
  case k6 => k_is
  case k7 => k_is
  case k8 => ktr_room
  case k9 => exact binds_K (by k_in) rfl (by k_is) rfl rfl rfl
  case c5 => decide
  case kB => exact locs rfl
  case c2 => exact rfl
  case c3 => exact rfl
  case c4 => exact rfl
  k_whole
  intro g' L' h' FG' F' N' B' X' T'
  try dsimp only
  try k_lift B'
  try k_fold
  k_with_none
  k_with "call builtin:iter" => (k_here; refine iter_list (by k_asm) (by k_asm) (hl _ _ _ h0) ?_; intro I' h' F' N' l1; try k_lt l1)
  k_with "call builtin:next" => (k_here; refine next_list (vs := v0 :: rest) (i := 0) (by k_asm) (by k_asm) rfl rfl (fun p hp => Nat.ne_of_lt (l1 p hp)) (hl _ _ _ h0) rfl ?_; intro h' oI' hc' hd2' F' N')
  k_with "exec For" => (k_here; (rename Fr _ _ _ _ => lF'); (with_unfolding_all refine' For_invVF lF' ?k1 ?k2 ?_; (case k1 => exact rfl); (case k2 => exact rfl); k_whole))
  k_with "pyIter ref" => (
    k_here
    (rename Fr _ _ _ _ => lF'); (rename News _ _ _ _ => lN')
    with_unfolding_all refine loop_listIt (vs := v0 :: rest) (nn := nn) (k := 1) (fun v => [(Str.ofString "value", v)]) [] Inv v0 rfl lF' lN' hc' hd2' ?hkn ?hnI hl ?hk h0 ?turn ?done
    case hkn => simp
    case hnI => exact fun p hp => Nat.ne_of_lt (l1 p hp)
    case hk => kst_all
    case' turn =>
      intro i v e nx u' h' tk' oI hch hInv hnx F' N'
      have hch' : rest[i]? = some e := by simpa using hch
      clear hch
      have hfa : (fa, (⟨oc, od, .func fd, sl⟩ : Obj)) ∈ (I', oI) :: nx := .tail _ (hfun _ _ _ hInv)
      clear lF' lN'
    case' done =>
      intro v nx u' h' tk' hInv hnx F' N'
      have hInv' : Inv rest.length v nx := by simpa using hInv
      clear lF' lN' hInv)
  k_with "callWith ref" => (k_here; refine callWith_F (FnAt.of (by k_asm) (by assumption)) ?_)
  k_with "And" => ((with_reducible show FnAt _ _ ∧ _); refine ⟨FnAt.of (by k_asm) (by assumption), ?_⟩; try dsimp only [List.nil_append, List.cons_append])
  k_with "call ref" => (
    k_here
    refine' hf _ _ _ _ _ _ (by assumption) (by assumption) (by assumption) _ _ _ _ _ _ _ _ _ _ _ _ _ _ _ _ _ ?k1 ?k2 ?k3 ?k4 ?k5 ?kK ?kd ?ku ?kR
    case k1 => k_asm
    case k2 => k_asm
    case k3 => k_asm
    case k4 => k_asm
    case k5 => k_asm
    case kK => first | exact rfl | assumption
    case kd => ktr_room
    case ku => ktr_units
    intro r' n' h' tk' F' N' hR'
    obtain ⟨nx', rfl, hnx', hInv'⟩ := hR')
  k_steps
  · exact hret _ _ _ _ (by k_asm) (by k_asm) (by assumption)
  · exact iturn_next _ _ (by assumption) (by assumption) (by assumption) (by kst_all) (by intro z h1 h2 h3; (simp only [List.forall_mem_cons, List.not_mem_nil, false_implies, implies_true, and_true, ne_eq] at h2); simp [kstB, h1, h2]) (by assumption)
end Mine

-- N1
namespace Mine
def nturn (k : Nat) (P : Int × Int × Int) : Int × Int × Int :=
  let side : Int := 2 ^ k
  let r := P.1 / side
  let u := P.2.1 / side
  let a := P.1 % side
  let b := P.2.1 % side
  if r = 0 then
    if u = 0 then (b, a, 4 * P.2.2 + 0) else (a, b, 4 * P.2.2 + 1)
  else
    if u = 0 then (side - 1 - b, side - 1 - a, 4 * P.2.2 + 3) else (a, b, 4 * P.2.2 + 2)
def niter (P : Int × Int × Int) : Nat → Int × Int × Int
  | 0 => P
  | i + 1 => nturn (13 - i) (niter P i)
def NInv (P : Int × Int × Int) (i : Nat) (S : Int × Int × Int) : Prop := S = niter P i ∧ 0 ≤ S.1 ∧ S.1 < 2 ^ (14 - i) ∧ 0 ≤ S.2.1 ∧ S.2.1 < 2 ^ (14 - i) ∧ 0 ≤ S.2.2 ∧ S.2.2 < 4 ^ i
theorem ninv0 {a0 b0 : Int} (ha0 : 0 ≤ a0) (ha1 : a0 < 16384) (hb0 : 0 ≤ b0) (hb1 : b0 < 16384) : NInv (a0, b0, 0) 0 (a0, b0, 0) := ⟨rfl, ha0, by simpa using ha1, hb0, by simpa using hb1, by simp, by simp⟩
theorem nquo {x : Int} {i : Nat} (hi : i < 14) (h0 : 0 ≤ x) (h1 : x < 2 ^ (14 - i)) : x.fdiv (2 ^ (13 + (i : Int) * -1).toNat) = 0 ∨ x.fdiv (2 ^ (13 + (i : Int) * -1).toNat) = 1 := by
  have e : (13 + (i : Int) * -1).toNat = 13 - i := by omega
  have e2 : (14 - i) = (13 - i) + 1 := by omega
  rw [e]; rw [e2, Int.pow_succ] at h1
  generalize hg : (2 : Int) ^ (13 - i) = g at *
  have hpos : 0 < g := by rw [← hg]; exact Int.pow_pos (by decide)
  rw [Int.fdiv_eq_ediv_of_nonneg _ (by omega)]
  have h2 : 0 ≤ x / g := Int.ediv_nonneg h0 (by omega)
  have h3 : x / g < 2 := Int.ediv_lt_of_lt_mul hpos (by omega)
  omega
theorem nfd (x : Int) (i : Nat) (hi : i < 14) : x.fdiv (2 ^ (13 + (i : Int) * -1).toNat) = x / 2 ^ (13 - i) := by
  have e : (13 + (i : Int) * -1).toNat = 13 - i := by omega
  rw [e, Int.fdiv_eq_ediv_of_nonneg _ (Int.le_of_lt (Int.pow_pos (by decide)))]
theorem nfm (x : Int) (i : Nat) (hi : i < 14) : x.fmod (2 ^ (13 + (i : Int) * -1).toNat) = x % 2 ^ (13 - i) := by
  have e : (13 + (i : Int) * -1).toNat = 13 - i := by omega
  rw [e, Int.fmod_eq_emod_of_nonneg _ (Int.le_of_lt (Int.pow_pos (by decide)))]
theorem ninv_next {P : Int × Int × Int} {i : Nat} {x y z x' y' z' : Int} (h : NInv P i (x, y, z)) (hi : i < 14) (e : (x', y', z') = nturn (13 - i) (x, y, z)) : NInv P (i + 1) (x', y', z') := by
  obtain ⟨e0, h1, h2, h3, h4, h5, h6⟩ := h
  refine ⟨by rw [e, e0]; rfl, ?_⟩
  have e2 : 14 - (i + 1) = 13 - i := by omega
  rw [e2, Int.pow_succ]
  dsimp only at *
  have hpos : (0 : Int) < 2 ^ (13 - i) := Int.pow_pos (by decide)
  have k1 := Int.emod_nonneg x (Int.ne_of_gt hpos)
  have k2 := Int.emod_lt_of_pos x hpos
  have k3 := Int.emod_nonneg y (Int.ne_of_gt hpos)
  have k4 := Int.emod_lt_of_pos y hpos
  unfold nturn at e
  dsimp only at e
  generalize (2 : Int) ^ (13 - i) = g at *
  generalize (4 : Int) ^ i = f at *
  (repeat' split at e) <;> (simp only [Prod.mk.injEq] at e; omega)
theorem nt00 {x y z : Int} {i : Nat} (hi : i < 14) (hr : x.fdiv (2 ^ (13 + (i : Int) * -1).toNat) = 0) (hu : y.fdiv (2 ^ (13 + (i : Int) * -1).toNat) = 0) :
    (y.fmod (2 ^ (13 + (i : Int) * -1).toNat), x.fmod (2 ^ (13 + (i : Int) * -1).toNat), 4 * z + 0) = nturn (13 - i) (x, y, z) := by
  rw [nfd _ _ hi] at hr hu
  rw [nfm _ _ hi, nfm _ _ hi]
  simp [nturn, hr, hu]
theorem nt01 {x y z : Int} {i : Nat} (hi : i < 14) (hr : x.fdiv (2 ^ (13 + (i : Int) * -1).toNat) = 0) (hu : y.fdiv (2 ^ (13 + (i : Int) * -1).toNat) = 1) :
    (x.fmod (2 ^ (13 + (i : Int) * -1).toNat), y.fmod (2 ^ (13 + (i : Int) * -1).toNat), 4 * z + 1) = nturn (13 - i) (x, y, z) := by
  rw [nfd _ _ hi] at hr hu
  rw [nfm _ _ hi, nfm _ _ hi]
  simp [nturn, hr, hu]
theorem nt10 {x y z : Int} {i : Nat} (hi : i < 14) (hr : x.fdiv (2 ^ (13 + (i : Int) * -1).toNat) = 1) (hu : y.fdiv (2 ^ (13 + (i : Int) * -1).toNat) = 0) :
    (2 ^ (13 + (i : Int) * -1).toNat - 1 - y.fmod (2 ^ (13 + (i : Int) * -1).toNat), 2 ^ (13 + (i : Int) * -1).toNat - 1 - x.fmod (2 ^ (13 + (i : Int) * -1).toNat), 4 * z + 3) = nturn (13 - i) (x, y, z) := by
  rw [nfd _ _ hi] at hr hu
  have e : (13 + (i : Int) * -1).toNat = 13 - i := by omega
  rw [nfm _ _ hi, nfm _ _ hi, e]
  simp [nturn, hr, hu]
theorem nt11 {x y z : Int} {i : Nat} (hi : i < 14) (hr : x.fdiv (2 ^ (13 + (i : Int) * -1).toNat) = 1) (hu : y.fdiv (2 ^ (13 + (i : Int) * -1).toNat) = 1) :
    (x.fmod (2 ^ (13 + (i : Int) * -1).toNat), y.fmod (2 ^ (13 + (i : Int) * -1).toNat), 4 * z + 2) = nturn (13 - i) (x, y, z) := by
  rw [nfd _ _ hi] at hr hu
  rw [nfm _ _ hi, nfm _ _ hi]
  simp [nturn, hr, hu]
set_option maxRecDepth 100000 in
set_option maxHeartbeats 8000000 in
theorem law_number {w : World} {p : Program} {loose : List Str} {mean : ExcName → Option Value} {mg mb : Str → Option Value} (news : Led) (a0 b0 : Int) (ta tb : Tok)
  (ha0 : 0 ≤ a0) (ha1 : a0 < 16384) (hb0 : 0 ≤ b0) (hb1 : b0 < 16384) :
  FnSpec Challenge.rw_nq0005_01.row.prog w (hd.heap_39 w.params) p loose mean mg mb (.ref 51) [.int a0 ta, .int b0 tb] 1 8 news (fun r n => (∃ t, r = .int (niter (a0, b0, 0) 14).2.2 t) ∧ n = news) := by
  k_fill
  intro dp un gd cn cs a ccd cl outer A₀ base h₀ L m s Q E B F X N T hk hd' hu hret
  refine wpAny_call ?_
  k_dflt cell_enter
  k_with_none
  k_with "pyIter ref" => (
    k_here
    (rename Fr _ _ _ _ => lF'); (rename News _ _ _ _ => lN'); (rename IsRange _ _ _ _ _ _ _ _ => rgX)
    with_unfolding_all refine' loop_range (n := 14) (fun (S : (Int × Tok) × (Int × Tok) × (Int × Tok)) => [(Str.ofString "across", .int S.1.1 S.1.2), (Str.ofString "above", .int S.2.1.1 S.2.1.2), (Str.ofString "number", .int S.2.2.1 S.2.2.2)]) [Str.ofString "side", Str.ofString "right", Str.ofString "up", Str.ofString "quarter"] (fun i S nx => NInv (a0, b0, 0) i (S.1.1, S.2.1.1, S.2.2.1) ∧ nx = news) ((a0, _), (b0, _), (0, _)) rfl rgX ?hsm ?hsz lF' (News.sub (news := news) lN' ?hsub) ?hk ?h0 ?turn ?done
    case hsm => decide
    case hsz => decide
    case hsub => first | exact fun p hp => hp | exact fun p hp => List.mem_cons_of_mem _ hp
    case hk => kst_all
    case h0 => exact ⟨ninv0 ha0 ha1 hb0 hb1, rfl⟩
    case' turn =>
      intro I i S tc nx u' h' tk' oI hnl hi hInv hnx F' N'
      obtain ⟨⟨x, tx⟩, ⟨y, ty⟩, z, tz⟩ := S
      obtain ⟨hInv, rfl⟩ := hInv
      clear lF' lN'
      have hInv1 := hInv; unfold NInv at hInv; have hr := nquo hi hInv.2.1 hInv.2.2.1
      have hu := nquo hi hInv.2.2.2.1 hInv.2.2.2.2.1
      dsimp only at hr hu
      clear hInv
      rcases hr with hr | hr <;> rcases hu with hu | hu
    case' done =>
      intro S nx u' h' tk' hInv F' N'
      obtain ⟨⟨x, tx⟩, ⟨y, ty⟩, z, tz⟩ := S
      obtain ⟨hInv, rfl⟩ := hInv
      clear lF' lN')
  k_with "subscriptTail List" => (k_here; refine item_list (by k_asm) (by k_mem) (by rw [hr]; decide) (by rw [hr]; decide) (by rw [hr]; rfl) ?_)
  k_with "subscriptTail Subscript" => (k_here; refine item_list (by k_asm) (by k_mem) (by rw [hu]; decide) (by rw [hu]; decide) (by rw [hu]; rfl) ?_)
  k_steps
  · exact hret _ _ _ _ (by k_asm) (by k_asm) ⟨⟨_, by rw [← hInv.1]⟩, rfl⟩
  · refine' iturn_next ((_, _), (_, _), (_, _)) _ (by assumption) (News.sub (by assumption) ?hs) (by assumption) ?hk ?hr ⟨ninv_next (by assumption) (by assumption) (nt00 (by assumption) (by assumption) (by assumption)), rfl⟩
    case hs => repeat (first | exact fun _ h => h | refine sub_cons ?_)
    case hk => kst_all
    case hr =>
      intro z h1 h2 h3
      simp only [List.forall_mem_cons, List.not_mem_nil, false_implies, implies_true, and_true, ne_eq] at h2
      simp only [List.contains_cons, List.contains_nil, Bool.or_false, Bool.or_eq_false_iff, beq_eq_false_iff_ne, ne_eq] at h3
      simp [kstB, h1, h2, h3]
  · refine' iturn_next ((_, _), (_, _), (_, _)) _ (by assumption) (News.sub (by assumption) ?hs) (by assumption) ?hk ?hr ⟨ninv_next (by assumption) (by assumption) (nt01 (by assumption) (by assumption) (by assumption)), rfl⟩
    case hs => repeat (first | exact fun _ h => h | refine sub_cons ?_)
    case hk => kst_all
    case hr =>
      intro z h1 h2 h3
      simp only [List.forall_mem_cons, List.not_mem_nil, false_implies, implies_true, and_true, ne_eq] at h2
      simp only [List.contains_cons, List.contains_nil, Bool.or_false, Bool.or_eq_false_iff, beq_eq_false_iff_ne, ne_eq] at h3
      simp [kstB, h1, h2, h3]
  · refine' iturn_next ((_, _), (_, _), (_, _)) _ (by assumption) (News.sub (by assumption) ?hs) (by assumption) ?hk ?hr ⟨ninv_next (by assumption) (by assumption) (nt10 (by assumption) (by assumption) (by assumption)), rfl⟩
    case hs => repeat (first | exact fun _ h => h | refine sub_cons ?_)
    case hk => kst_all
    case hr =>
      intro z h1 h2 h3
      simp only [List.forall_mem_cons, List.not_mem_nil, false_implies, implies_true, and_true, ne_eq] at h2
      simp only [List.contains_cons, List.contains_nil, Bool.or_false, Bool.or_eq_false_iff, beq_eq_false_iff_ne, ne_eq] at h3
      simp [kstB, h1, h2, h3]
  · refine' iturn_next ((_, _), (_, _), (_, _)) _ (by assumption) (News.sub (by assumption) ?hs) (by assumption) ?hk ?hr ⟨ninv_next (by assumption) (by assumption) (nt11 (by assumption) (by assumption) (by assumption)), rfl⟩
    case hs => repeat (first | exact fun _ h => h | refine sub_cons ?_)
    case hk => kst_all
    case hr =>
      intro z h1 h2 h3
      simp only [List.forall_mem_cons, List.not_mem_nil, false_implies, implies_true, and_true, ne_eq] at h2
      simp only [List.contains_cons, List.contains_nil, Bool.or_false, Bool.or_eq_false_iff, beq_eq_false_iff_ne, ne_eq] at h3
      simp [kstB, h1, h2, h3]
end Mine

-- L1
namespace Mine
structure L1 (name qual : Str) (params : Arguments) (body : PySem.Expr) (scope : Scope) (clos : List (Str × Addr)) (pm : Value) (c' : Addr) (ctv : Value) (oc : Obj) (vs : Array Value) (t : Tok) (f st cell sq : Addr) (ocell : Obj) (nw : Led) : Prop where
  lam : (f, kla_obj name qual params body scope clos pm c' ctv) ∈ nw
  code : (c', oc) ∈ nw
  cd : oc.data = .fields vs
  cq : vs[1]? = some (.str qual t)
  cel : (cell, ocell) ∈ nw
  celd : ocell.data = .cell (some (.ref sq))
  sqs : SqAt sq nw
  strt : ∃ t1 t2 t3, (st, tupO [.int 0 t1, .int 0 t2, .int 0 t3]) ∈ nw
theorem L1.mono {name qual : Str} {params : Arguments} {body : PySem.Expr} {scope : Scope} {clos : List (Str × Addr)} {pm : Value} {c' : Addr} {ctv : Value} {oc : Obj} {vs : Array Value} {t : Tok} {f st cell sq : Addr} {ocell : Obj} {nw nw' : Led}
    (h : L1 name qual params body scope clos pm c' ctv oc vs t f st cell sq ocell nw) (hs : ∀ p ∈ nw, p ∈ nw') : L1 name qual params body scope clos pm c' ctv oc vs t f st cell sq ocell nw' :=
  ⟨hs _ h.lam, hs _ h.code, h.cd, h.cq, hs _ h.cel, h.celd, h.sqs.mono hs, let ⟨t1, t2, t3, e⟩ := h.strt; ⟨t1, t2, t3, hs _ e⟩⟩
theorem led1_of {h₀ h : Heap} {L : Addr} {name qual : Str} {params : Arguments} {body : PySem.Expr} {scope : Scope} {clos : List (Str × Addr)} {pm : Value} {c' : Addr} {ctv : Value} {oc : Obj} {vs : Array Value} {t t1 t2 t3 : Tok} {f st cell sq : Addr} {ocell : Obj} {a1 a2 a3 tb : Addr × Obj} {more : Led}
    (_N : News h₀ L h (a1 :: a2 :: a3 :: (f, kla_obj name qual params body scope clos pm c' ctv) :: (c', oc) :: (st, tupO [.int 0 t1, .int 0 t2, .int 0 t3]) :: (cell, ocell) :: tb :: more)) (d1 : oc.data = .fields vs) (d2 : vs[1]? = some (.str qual t)) (dc : ocell.data = .cell (some (.ref sq))) (hsq : SqAt sq more) :
    L1 name qual params body scope clos pm c' ctv oc vs t f st cell sq ocell (a1 :: a2 :: a3 :: (f, kla_obj name qual params body scope clos pm c' ctv) :: (c', oc) :: (st, tupO [.int 0 t1, .int 0 t2, .int 0 t3]) :: (cell, ocell) :: tb :: more) :=
  ⟨by simp, by simp, d1, d2, by simp, dc, hsq.mono fun p hp => by simp [hp], t1, t2, t3, by simp⟩
end Mine

-- L1b
namespace Mine
theorem ints_some {vs : List Value} {ns : List Int} {i : Nat} {v : Value} (h : IntsAre vs ns) (hv : vs[i]? = some v) : ∃ x t, v = .int x t := by
  have hi : i < ns.length := by rw [← h.length]; exact (List.getElem?_eq_some_iff.mp hv).1
  obtain ⟨t, hx⟩ := h.get i (ns[i]'hi) (List.getElem?_eq_getElem hi)
  rw [hx] at hv
  exact ⟨_, t, (Option.some.inj hv).symm⟩
theorem wordB_len : ∀ (k n : Nat), n < 16 ^ k → (wordB n).length ≤ k
  | 0, n, h => by have : n = 0 := by simpa using h
                  subst this; rw [wordB_zero]; simp
  | k + 1, n, h => by
    by_cases h0 : n = 0
    · subst h0; rw [wordB_zero]; simp
    · rw [wordB_step h0, List.length_append]
      have := wordB_len k (n / 16) (by rw [Nat.pow_succ] at h; omega)
      simp; omega
theorem int2ap_spec {w : World} {p : Program} {loose : List Str} {mean : ExcName → Option Value} {mg mb : Str → Option Value} (news : Led) (n : Int) (t : Tok) (hn : n.natAbs < 16 ^ 100) :
    FnSpec Challenge.rw_nq0005_01.row.prog w (hd.heap_39 w.params) p loose mean mg mb (.ref 21) [.int n t] 1 8 news (fun r n' => (∃ t, r = .bytes (wordB n.natAbs).toArray t) ∧ n' = news) := by
  intro dp un gd cn cs a ccd cl outer A₀ base h₀ L m s Q E B F X N T hk hd' hu hret
  exact int2ap news n t dp un gd cn cs a ccd cl outer A₀ base h₀ L m s Q E B F X N T hk (Nat.le_trans (wordB_len 100 _ hn) (by decide)) hd' hu fun t' h' tk' F' N' => hret _ _ h' tk' F' N' ⟨⟨t', rfl⟩, rfl⟩
end Mine

-- L1c
namespace Mine
theorem wordB_mem : ∀ (n : Nat) (c : UInt8), c ∈ wordB n → ∃ i, i < 16 ∧ c.toNat = 65 + i := by
  intro n
  induction n using Nat.strongRecOn with
  | ind n ih =>
    intro c hc
    by_cases h0 : n = 0
    · subst h0; rw [wordB_zero] at hc; cases hc
    · rw [wordB_step h0] at hc
      rcases List.mem_append.mp hc with hc | hc
      · exact ih (n / 16) (by omega) c hc
      · rw [List.mem_singleton.mp hc]
        refine ⟨n % 16, by omega, ?_⟩
        rw [UInt8.toNat_ofNat_of_lt']; show _ < 256; omega
def hfold (P : Int × Int × Int) (l : List UInt8) : Int × Int × Int := l.foldl (fun P c => hstep P (c.toNat - 65)) P
theorem hfold_snoc {P : Int × Int × Int} {l : List UInt8} {c : UInt8} : hfold P (l ++ [c]) = hstep (hfold P l) (c.toNat - 65) := by simp [hfold]
def LamOk (w : World) (p : Program) (loose : List Str) (mean : ExcName → Option Value) (mg mb : Str → Option Value) (f : Addr) (G : Led → Prop) : Prop :=
  ∀ (nx : Led) (x y d : Int) (tx ty td : Tok) (tat : Addr) (i : Nat) (tl : Tok), G nx → i < 16 → (tat, tupO [.int x tx, .int y ty, .int d td]) ∈ nx →
    FnSpec Challenge.rw_nq0005_01.row.prog w (hd.heap_39 w.params) p loose mean mg mb (.ref f) [.ref tat, .int (65 + (i : Int)) tl] 2 16 nx (Made3 nx (hstep (x, y, d) i))
def WInv (nx : Led) (P : Int × Int × Int) (v : Value) (nx' : Led) : Prop := ∃ t' tx ty td, v = .ref t' ∧ (t', tupO [.int P.1 tx, .int P.2.1 ty, .int P.2.2 td]) ∈ nx' ∧ ∀ p ∈ nx, p ∈ nx'
def OnTop (nx : Led) (P : Int × Int × Int) (r : Value) (n : Led) : Prop := ∃ t' tx ty td, r = .ref t' ∧ n = (t', tupO [.int P.1 tx, .int P.2.1 ty, .int P.2.2 td]) :: nx
theorem winv_top {nx n : Led} {P : Int × Int × Int} {r : Value} (h : WInv nx P r n) : ∃ n', (∀ q ∈ n', q ∈ n) ∧ OnTop nx P r n' := by
  obtain ⟨t', tx, ty, td, rfl, hm, hs⟩ := h
  refine ⟨_, ?_, t', tx, ty, td, rfl, rfl⟩
  intro q hq
  rcases List.mem_cons.mp hq with rfl | hq
  · exact hm
  · exact hs q hq
theorem winv_step {nx nx' n : Led} {I : Addr} {oI : Obj} {P : Int × Int × Int} {r : Value} (hs : ∀ p ∈ nx, p ∈ nx') (hI : ∀ p ∈ nx', p.1 ≠ I) (h : Made3 ((I, oI) :: nx') P r n) :
    ∃ n', (∀ q ∈ n', q ∈ n) ∧ ∃ nx'', n' = (I, oI) :: nx'' ∧ (∀ p ∈ nx'', p.1 ≠ I) ∧ WInv nx P r nx'' := by
  obtain ⟨t', tx, ty, td, rfl, hlt, rfl⟩ := h
  refine ⟨(I, oI) :: (t', tupO [.int P.1 tx, .int P.2.1 ty, .int P.2.2 td]) :: nx', ?_, _, rfl, ?_, t', tx, ty, td, rfl, List.mem_cons_self, fun p hp => List.mem_cons_of_mem _ (hs p hp)⟩
  · intro q hq
    simp only [List.mem_cons] at hq ⊢
    rcases hq with h | h | h <;> simp [h]
  · intro p hp
    rcases List.mem_cons.mp hp with rfl | hp
    · exact Nat.ne_of_gt (hlt (I, oI) List.mem_cons_self)
    · exact hI p hp
section
variable {w : World} {p : Program} {loose : List Str} {mean : ExcName → Option Value} {mg mb : Str → Option Value} {name qual : Str} {params : Arguments} {body : PySem.Expr} {scope : Scope} {clos : List (Str × Addr)} {pm : Value} {c' : Addr} {ctv : Value} {oc : Obj} {vs : Array Value} {t : Tok} {f st cell sq : Addr} {ocell : Obj} {nx : Led}
theorem red_word (hlam : LamOk w p loose mean mg mb f (L1 name qual params body scope clos pm c' ctv oc vs t f st cell sq ocell)) (hG : L1 name qual params body scope clos pm c' ctv oc vs t f st cell sq ocell nx) (n : Nat) (tb : Tok) :
    FnSpec Challenge.rw_nq0005_01.row.prog w (hd.heap_39 w.params) p loose mean mg mb (.ref 30) [.ref f, .bytes (wordB n).toArray tb, .ref st] 3 24 nx (OnTop nx (hfold (0, 0, 0) (wordB n))) := by
  obtain ⟨t1, t2, t3, hst⟩ := hG.strt
  have key := reduce_bytes (w := w) (p := p) (loose := loose) (mean := mean) (mg := mg) (mb := mb) nx f (wordB n).toArray tb (.ref st) 2 16 (fun i v nx' => WInv nx (hfold (0, 0, 0) ((wordB n).take i)) v nx')
    ⟨st, t1, t2, t3, rfl, hst, fun _ h => h⟩ (.inr ⟨st, _, rfl, hst⟩) (fun i v nx' h => let ⟨_, _, _, _, _, _, hs⟩ := h; hs _ hG.lam) ?_
  · refine key.mono (fun _ h => h) (by decide) (by decide) fun r m h => ?_
    have : (wordB n).take (wordB n).toArray.size = wordB n := by simp
    rw [this] at h
    exact winv_top h
  · intro i v ch tc nx' I oI hch hInv hI
    obtain ⟨t', tx, ty, td, rfl, hm, hs⟩ := hInv
    have hch' : (wordB n)[i]? = some ch := by simpa using hch
    obtain ⟨j, hj, hc⟩ := wordB_mem n ch (List.mem_of_getElem? hch')
    have := hlam ((I, oI) :: nx') _ _ _ tx ty td t' j tc (hG.mono fun q hq => List.mem_cons_of_mem _ (hs q hq)) hj (List.mem_cons_of_mem _ hm)
    rw [show ((ch.toNat : Nat) : Int) = 65 + (j : Int) by omega]
    refine this.mono (fun _ h => h) (by decide) (by decide) fun r m h => ?_
    have e : (wordB n).take (i + 1) = (wordB n).take i ++ [ch] := by simp [List.take_add_one, hch']
    rw [e, hfold_snoc, show ch.toNat - 65 = j by omega]
    exact winv_step hs hI h
theorem red_list (hlam : LamOk w p loose mean mg mb f (L1 name qual params body scope clos pm c' ctv oc vs t f st cell sq ocell)) (hG : L1 name qual params body scope clos pm c' ctv oc vs t f st cell sq ocell nx) (n : Nat) (l : Addr) (nn : Nat) (ws : List Value) (hw : IntsAre ws ((wordB n).map fun c => ((c.toNat : Nat) : Int)))
    (hl : (l, listOf (.ref st :: ws).toArray nn) ∈ nx) :
    FnSpec Challenge.rw_nq0005_01.row.prog w (hd.heap_39 w.params) p loose mean mg mb (.ref 30) [.ref f, .ref l] 3 24 nx (OnTop nx (hfold (0, 0, 0) (wordB n))) := by
  obtain ⟨t1, t2, t3, hst⟩ := hG.strt
  have key := reduce_list (w := w) (p := p) (loose := loose) (mean := mean) (mg := mg) (mb := mb) nx f l nn (.ref st) ws 2 16 (fun i v nx' => WInv nx (hfold (0, 0, 0) ((wordB n).take i)) v nx')
    ⟨st, t1, t2, t3, rfl, hst, fun _ h => h⟩ (fun i v nx' h => let ⟨_, _, _, _, _, _, hs⟩ := h; hs _ hl) (fun i v nx' h => let ⟨_, _, _, _, _, _, hs⟩ := h; hs _ hG.lam) ?_
  · refine key.mono (fun _ h => h) (by decide) (by decide) fun r m h => ?_
    have : (wordB n).take ws.length = wordB n := by rw [hw.length]; simp
    rw [this] at h
    exact winv_top h
  · intro i v e nx' I oI he hInv hI
    obtain ⟨t', tx, ty, td, rfl, hm, hs⟩ := hInv
    have hi : i < (wordB n).length := by
      have := (List.getElem?_eq_some_iff.mp he).1
      rw [hw.length] at this; simpa using this
    obtain ⟨tc, hx⟩ := hw.get i (((wordB n)[i]'hi).toNat : Int) (by simp [hi])
    have he' : e = .int (((wordB n)[i]'hi).toNat : Int) tc := by rw [hx] at he; exact (Option.some.inj he).symm
    subst he'
    obtain ⟨j, hj, hc⟩ := wordB_mem n ((wordB n)[i]'hi) (List.getElem_mem hi)
    have := hlam ((I, oI) :: nx') _ _ _ tx ty td t' j tc (hG.mono fun q hq => List.mem_cons_of_mem _ (hs q hq)) hj (List.mem_cons_of_mem _ hm)
    rw [show ((((wordB n)[i]'hi).toNat : Nat) : Int) = 65 + (j : Int) by omega]
    refine this.mono (fun _ h => h) (by decide) (by decide) fun r m h => ?_
    have e : (wordB n).take (i + 1) = (wordB n).take i ++ [(wordB n)[i]'hi] := by rw [List.take_add_one, List.getElem?_eq_getElem hi]; rfl
    rw [e, hfold_snoc, show ((wordB n)[i]'hi).toNat - 65 = j by omega]
    exact winv_step hs hI h
end
end Mine

-- L1d
namespace Mine
theorem have_lam {w : World} {p : Program} {loose : List Str} {mean : ExcName → Option Value} {mg mb : Str → Option Value} {h₀ : Heap} {name qual : Str} {params : Arguments} {body : PySem.Expr} {scope : Scope} {clos : List (Str × Addr)} {pm : Value} {c' : Addr} {ctv : Value} {oc : Obj} {vs : Array Value} {t : Tok} {f st cell sq : Addr} {ocell : Obj} {nx : Led} {C : Prop}
    (_X : (hd.heap_39 w.params).In h₀) (_T : Top p loose mean mg mb h₀) (_hG : L1 name qual params body scope clos pm c' ctv oc vs t f st cell sq ocell nx)
    (h1 : LamOk w p loose mean mg mb f (L1 name qual params body scope clos pm c' ctv oc vs t f st cell sq ocell)) (h2 : LamOk w p loose mean mg mb f (L1 name qual params body scope clos pm c' ctv oc vs t f st cell sq ocell) → C) : C := h2 h1
end Mine

-- H1
namespace Mine
def hil (n : Nat) : Int × Int × Int := hfold (0, 0, 0) (wordB n)
theorem hil_zero : hil 0 = (0, 0, 0) := by unfold hil; rw [wordB_zero]; rfl
theorem hstep_zero : hstep (0, 0, 0) 0 = (0, 0, 0) := by decide +kernel
theorem hil_step (n : Nat) : hil n = hstep (hil (n / 16)) (n % 16) := by
  by_cases h : n = 0
  · subst h; rw [show (0 : Nat) / 16 = 0 from rfl, show (0 : Nat) % 16 = 0 from rfl, hil_zero, hstep_zero]
  · unfold hil
    rw [wordB_step h, hfold_snoc, UInt8.toNat_ofNat_of_lt' (by show _ < 256; omega)]
    congr 1; omega
/-- the steps are linear in the place -/
theorem hstep_lin (x y d : Int) (i : Nat) : hstep (x, y, d) i = (4 * x + (hstep (0, 0, d) i).1, 4 * y + (hstep (0, 0, d) i).2.1, (hstep (0, 0, d) i).2.2) := by
  simp [hstep]
def D4 (d : Int) : Prop := d = 0 ∨ d = 1 ∨ d = 2 ∨ d = 3
theorem fin4 {P : Int → Prop} (h : ∀ k : Fin 4, P ((k.1 : Nat) : Int)) : ∀ d, D4 d → P d := by
  intro d hd
  rcases hd with rfl | rfl | rfl | rfl
  · exact h 0
  · exact h 1
  · exact h 2
  · exact h 3
theorem hstep_tab : ∀ k : Fin 4, ∀ i : Fin 16, D4 (hstep (0, 0, ((k.1 : Nat) : Int)) i.1).2.2 ∧ 0 ≤ (hstep (0, 0, ((k.1 : Nat) : Int)) i.1).1 ∧ (hstep (0, 0, ((k.1 : Nat) : Int)) i.1).1 ≤ 3 ∧ 0 ≤ (hstep (0, 0, ((k.1 : Nat) : Int)) i.1).2.1 ∧ (hstep (0, 0, ((k.1 : Nat) : Int)) i.1).2.1 ≤ 3 := by
  unfold D4; decide +kernel
theorem hstep_rng {d : Int} (hd : D4 d) {i : Nat} (hi : i < 16) : D4 (hstep (0, 0, d) i).2.2 ∧ 0 ≤ (hstep (0, 0, d) i).1 ∧ (hstep (0, 0, d) i).1 ≤ 3 ∧ 0 ≤ (hstep (0, 0, d) i).2.1 ∧ (hstep (0, 0, d) i).2.1 ≤ 3 :=
  fin4 (P := fun d => D4 (hstep (0, 0, d) i).2.2 ∧ 0 ≤ (hstep (0, 0, d) i).1 ∧ (hstep (0, 0, d) i).1 ≤ 3 ∧ 0 ≤ (hstep (0, 0, d) i).2.1 ∧ (hstep (0, 0, d) i).2.1 ≤ 3) (fun k => hstep_tab k ⟨i, hi⟩) d hd
theorem hil_lin (n : Nat) : hil n = (4 * (hil (n / 16)).1 + (hstep (0, 0, (hil (n / 16)).2.2) (n % 16)).1, 4 * (hil (n / 16)).2.1 + (hstep (0, 0, (hil (n / 16)).2.2) (n % 16)).2.1, (hstep (0, 0, (hil (n / 16)).2.2) (n % 16)).2.2) := by
  rw [hil_step n]; exact hstep_lin _ _ _ _
theorem hil_ok : ∀ n, D4 (hil n).2.2 ∧ 0 ≤ (hil n).1 ∧ 0 ≤ (hil n).2.1 := by
  intro n
  induction n using Nat.strongRecOn with
  | ind n ih =>
    by_cases h : n = 0
    · subst h; rw [hil_zero]; exact ⟨.inl rfl, by decide, by decide⟩
    · obtain ⟨h1, h2, h3⟩ := ih (n / 16) (by omega)
      obtain ⟨k1, k2, k3, k4, k5⟩ := hstep_rng h1 (show n % 16 < 16 by omega)
      rw [hil_lin n]
      exact ⟨k1, by dsimp only; omega, by dsimp only; omega⟩
theorem hil_pre1 (n : Nat) : (hil (n / 16)).1 = (hil n).1 / 4 ∧ (hil (n / 16)).2.1 = (hil n).2.1 / 4 := by
  obtain ⟨h1, h2, h3⟩ := hil_ok (n / 16)
  obtain ⟨k1, k2, k3, k4, k5⟩ := hstep_rng h1 (show n % 16 < 16 by omega)
  rw [hil_lin n]
  exact ⟨by dsimp only; omega, by dsimp only; omega⟩
theorem hil_pre (n k : Nat) : (hil (n / 16 ^ k)).1 = (hil n).1 / 4 ^ k ∧ (hil (n / 16 ^ k)).2.1 = (hil n).2.1 / 4 ^ k := by
  induction k with
  | zero => simp
  | succ k ih =>
    have e : n / 16 ^ (k + 1) = n / 16 ^ k / 16 := by rw [Nat.pow_succ, Nat.div_div_eq_div_mul]
    have := hil_pre1 (n / 16 ^ k)
    rw [e, this.1, this.2, ih.1, ih.2, Int.pow_succ, Int.ediv_ediv_of_nonneg (Int.le_of_lt (Int.pow_pos (by decide))), Int.ediv_ediv_of_nonneg (Int.le_of_lt (Int.pow_pos (by decide)))]
    exact ⟨rfl, rfl⟩
theorem lt_of_div_zero {a g : Int} (hg : 0 < g) (h0 : 0 ≤ a) (h : a / g = 0) : a < g := by
  have := Int.emod_add_mul_ediv a g
  rw [h, Int.mul_zero, Int.add_zero] at this
  rw [← this]; exact Int.emod_lt_of_pos a hg
theorem hil_bound (n : Nat) (h : n < 16 ^ 7) : 0 ≤ (hil n).1 ∧ (hil n).1 < 16384 ∧ 0 ≤ (hil n).2.1 ∧ (hil n).2.1 < 16384 := by
  obtain ⟨h1, h2, h3⟩ := hil_ok n
  have hp := hil_pre n 7
  rw [Nat.div_eq_of_lt h, hil_zero] at hp
  exact ⟨h2, lt_of_div_zero (g := 16384) (by decide) h2 hp.1.symm, h3, lt_of_div_zero (g := 16384) (by decide) h3 hp.2.symm⟩
/-! side by side -/
def exX (d : Int) : Int := if d = 0 ∨ d = 3 then 3 else 0
def exY (d : Int) : Int := if d = 0 ∨ d = 3 then 0 else 3
def enX (d : Int) : Int := if d > 1 then 3 else 0
theorem adj_tab : ∀ k : Fin 4, ∀ c : Fin 15,
    let a := hstep (0, 0, ((k.1 : Nat) : Int)) c.1
    let b := hstep (0, 0, ((k.1 : Nat) : Int)) (c.1 + 1)
    (b.1 - a.1).natAbs + (b.2.1 - a.2.1).natAbs = 1 ∧ 3 * (b.1 - a.1) = exX a.2.2 - enX b.2.2 ∧ 3 * (b.2.1 - a.2.1) = exY a.2.2 - enX b.2.2 := by
  decide +kernel
theorem end_tab : ∀ k : Fin 4, hstep (0, 0, ((k.1 : Nat) : Int)) 15 = (exX ((k.1 : Nat) : Int), exY ((k.1 : Nat) : Int), ((k.1 : Nat) : Int)) ∧ hstep (0, 0, ((k.1 : Nat) : Int)) 0 = (enX ((k.1 : Nat) : Int), enX ((k.1 : Nat) : Int), ((k.1 : Nat) : Int)) := by
  decide +kernel
def Adj (n : Nat) : Prop := ((hil (n + 1)).1 - (hil n).1).natAbs + ((hil (n + 1)).2.1 - (hil n).2.1).natAbs = 1 ∧ 3 * ((hil (n + 1)).1 - (hil n).1) = exX (hil n).2.2 - enX (hil (n + 1)).2.2 ∧ 3 * ((hil (n + 1)).2.1 - (hil n).2.1) = exY (hil n).2.2 - enX (hil (n + 1)).2.2
theorem hil_adj_all : ∀ n, Adj n := by
  intro n
  induction n using Nat.strongRecOn with
  | ind n ih =>
    unfold Adj
    by_cases hc : n % 16 < 15
    · have e1 : (n + 1) / 16 = n / 16 := by omega
      have e2 : (n + 1) % 16 = n % 16 + 1 := by omega
      rw [hil_lin n, hil_lin (n + 1), e1, e2]
      have := fin4 (P := fun d => (((hstep (0, 0, d) (n % 16 + 1)).1 - (hstep (0, 0, d) (n % 16)).1).natAbs + ((hstep (0, 0, d) (n % 16 + 1)).2.1 - (hstep (0, 0, d) (n % 16)).2.1).natAbs = 1 ∧ 3 * ((hstep (0, 0, d) (n % 16 + 1)).1 - (hstep (0, 0, d) (n % 16)).1) = exX (hstep (0, 0, d) (n % 16)).2.2 - enX (hstep (0, 0, d) (n % 16 + 1)).2.2 ∧ 3 * ((hstep (0, 0, d) (n % 16 + 1)).2.1 - (hstep (0, 0, d) (n % 16)).2.1) = exY (hstep (0, 0, d) (n % 16)).2.2 - enX (hstep (0, 0, d) (n % 16 + 1)).2.2)) (fun k => adj_tab k ⟨n % 16, hc⟩) _ (hil_ok (n / 16)).1
      dsimp only
      refine ⟨?_, ?_, ?_⟩ <;> omega
    · have e0 : n % 16 = 15 := by omega
      have e1 : (n + 1) / 16 = n / 16 + 1 := by omega
      have e2 : (n + 1) % 16 = 0 := by omega
      have h := ih (n / 16) (by omega)
      unfold Adj at h
      rw [hil_lin n, hil_lin (n + 1), e0, e1, e2]
      have a1 := (fin4 (P := fun d => hstep (0, 0, d) 15 = (exX d, exY d, d) ∧ hstep (0, 0, d) 0 = (enX d, enX d, d)) (fun k => end_tab k) _ (hil_ok (n / 16)).1).1
      have a2 := (fin4 (P := fun d => hstep (0, 0, d) 15 = (exX d, exY d, d) ∧ hstep (0, 0, d) 0 = (enX d, enX d, d)) (fun k => end_tab k) _ (hil_ok (n / 16 + 1)).1).2
      rw [a1, a2]
      dsimp only
      refine ⟨?_, ?_, ?_⟩ <;> omega
theorem hil_adj (n : Nat) (_h : n < 16 ^ 6) : (((hil (n + 1)).1 - (hil n).1).natAbs : Int) + (((hil (n + 1)).2.1 - (hil n).2.1).natAbs : Int) = 1 := by
  have := (hil_adj_all n).1
  omega
end Mine

-- H1b
namespace Mine
/-! the same walk by quarters -/
def bX : List Int := [0, 0, 1, 1]
def bY : List Int := [0, 1, 1, 0]
def bM : List Int := [1, 0, 0, 3]
def bstep (P : Int × Int × Int) (q : Nat) : Int × Int × Int :=
  let r := bX.getD q 0
  let u := bY.getD q 0
  let r1 := if P.2.2.fmod 2 = 1 then u else r
  let u1 := if P.2.2.fmod 2 = 1 then r else u
  let r2 := if 1 < P.2.2 then 1 - r1 else r1
  let u2 := if 1 < P.2.2 then 1 - u1 else u1
  (2 * P.1 + r2, 2 * P.2.1 + u2, Builtin.bitXor P.2.2 (bM.getD q 0))
theorem bstep_lin (x y d : Int) (q : Nat) : bstep (x, y, d) q = (2 * x + (bstep (0, 0, d) q).1, 2 * y + (bstep (0, 0, d) q).2.1, (bstep (0, 0, d) q).2.2) := by
  simp [bstep]
theorem two_tab : ∀ k : Fin 4, ∀ q1 q2 : Fin 4, hstep (0, 0, ((k.1 : Nat) : Int)) (4 * q1.1 + q2.1) = bstep (bstep (0, 0, ((k.1 : Nat) : Int)) q1.1) q2.1 := by decide +kernel
theorem hstep_two {x y d : Int} (hd : D4 d) {c : Nat} (hc : c < 16) : hstep (x, y, d) c = bstep (bstep (x, y, d) (c / 4)) (c % 4) := by
  have e : c = 4 * (c / 4) + c % 4 := by omega
  have h := fin4 (P := fun d => hstep (0, 0, d) (4 * (c / 4) + c % 4) = bstep (bstep (0, 0, d) (c / 4)) (c % 4)) (fun k => two_tab k ⟨c / 4, by omega⟩ ⟨c % 4, by omega⟩) d hd
  rw [← e] at h
  rw [hstep_lin, h, bstep_lin x y d (c / 4)]
  generalize bstep (0, 0, d) (c / 4) = B
  rw [bstep_lin B.1 B.2.1 B.2.2, bstep_lin (2 * x + B.1)]
  dsimp only
  refine Prod.ext ?_ (Prod.ext ?_ rfl) <;> dsimp only <;> omega
/-- K quarters of n, the first one first -/
def G : Nat → Int × Int × Int → Nat → Int × Int × Int
  | 0, P, _ => P
  | K + 1, P, n => bstep (G K P (n / 4)) (n % 4)
theorem G_lead : ∀ (K : Nat) (P : Int × Int × Int) (n : Nat), G (K + 1) P n = G K (bstep P (n / 4 ^ K % 4)) (n % 4 ^ K)
  | 0, P, n => by simp [G]
  | K + 1, P, n => by
    rw [G, G_lead K P (n / 4), G]
    have e1 : n / 4 / 4 ^ K = n / 4 ^ (K + 1) := by rw [Nat.div_div_eq_div_mul, Nat.pow_succ, Nat.mul_comm]
    have e2 : n % 4 ^ (K + 1) / 4 = n / 4 % 4 ^ K := by rw [Nat.pow_succ, Nat.mul_comm, Nat.mod_mul_right_div_self]
    have e3 : n % 4 ^ (K + 1) % 4 = n % 4 := by rw [Nat.pow_succ, Nat.mod_mul_left_mod]
    rw [e1, e2, e3]
theorem hil_G : ∀ (L n : Nat), n < 16 ^ L → hil n = G (2 * L) (0, 0, 0) n
  | 0, n, h => by
    have : n = 0 := by simpa using h
    subst this; rw [hil_zero]; rfl
  | L + 1, n, h => by
    have ih := hil_G L (n / 16) (by rw [Nat.pow_succ] at h; omega)
    rw [hil_step n, ih, show 2 * (L + 1) = 2 * L + 1 + 1 by omega, G, G]
    have hd : D4 (G (2 * L) (0, 0, 0) (n / 16)).2.2 := by rw [← ih]; exact (hil_ok _).1
    have := hstep_two (x := (G (2 * L) (0, 0, 0) (n / 16)).1) (y := (G (2 * L) (0, 0, 0) (n / 16)).2.1) hd (show n % 16 < 16 by omega)
    rw [show n / 4 / 4 = n / 16 by omega, show n / 4 % 4 = n % 16 / 4 by omega, show n % 4 = n % 16 % 4 by omega]
    exact this
/-! a square turned -/
def Tr (g d x y : Int) : Int × Int :=
  let x1 := if d.fmod 2 = 1 then y else x
  let y1 := if d.fmod 2 = 1 then x else y
  (if 1 < d then g - 1 - x1 else x1, if 1 < d then g - 1 - y1 else y1)
theorem quart_tab : ∀ k l : Fin 4, ∀ q : Fin 4, bstep (0, 0, Builtin.bitXor ((k.1 : Nat) : Int) ((l.1 : Nat) : Int)) q.1 = ((Tr 2 ((k.1 : Nat) : Int) (bstep (0, 0, ((l.1 : Nat) : Int)) q.1).1 (bstep (0, 0, ((l.1 : Nat) : Int)) q.1).2.1).1, (Tr 2 ((k.1 : Nat) : Int) (bstep (0, 0, ((l.1 : Nat) : Int)) q.1).1 (bstep (0, 0, ((l.1 : Nat) : Int)) q.1).2.1).2, Builtin.bitXor ((k.1 : Nat) : Int) (bstep (0, 0, ((l.1 : Nat) : Int)) q.1).2.2) ∧
    D4 (bstep (0, 0, ((l.1 : Nat) : Int)) q.1).2.2 ∧ D4 (Builtin.bitXor ((k.1 : Nat) : Int) ((l.1 : Nat) : Int)) ∧ 0 ≤ (bstep (0, 0, ((l.1 : Nat) : Int)) q.1).1 ∧ (bstep (0, 0, ((l.1 : Nat) : Int)) q.1).1 ≤ 1 ∧ 0 ≤ (bstep (0, 0, ((l.1 : Nat) : Int)) q.1).2.1 ∧ (bstep (0, 0, ((l.1 : Nat) : Int)) q.1).2.1 ≤ 1 := by
  unfold D4; decide +kernel
theorem quart {d e : Int} (hd : D4 d) (he : D4 e) {q : Nat} (hq : q < 4) : bstep (0, 0, Builtin.bitXor d e) q = ((Tr 2 d (bstep (0, 0, e) q).1 (bstep (0, 0, e) q).2.1).1, (Tr 2 d (bstep (0, 0, e) q).1 (bstep (0, 0, e) q).2.1).2, Builtin.bitXor d (bstep (0, 0, e) q).2.2) ∧
    D4 (bstep (0, 0, e) q).2.2 ∧ D4 (Builtin.bitXor d e) ∧ 0 ≤ (bstep (0, 0, e) q).1 ∧ (bstep (0, 0, e) q).1 ≤ 1 ∧ 0 ≤ (bstep (0, 0, e) q).2.1 ∧ (bstep (0, 0, e) q).2.1 ≤ 1 := by
  rcases hd with rfl | rfl | rfl | rfl <;> rcases he with rfl | rfl | rfl | rfl
  · exact quart_tab 0 0 ⟨q, hq⟩
  · exact quart_tab 0 1 ⟨q, hq⟩
  · exact quart_tab 0 2 ⟨q, hq⟩
  · exact quart_tab 0 3 ⟨q, hq⟩
  · exact quart_tab 1 0 ⟨q, hq⟩
  · exact quart_tab 1 1 ⟨q, hq⟩
  · exact quart_tab 1 2 ⟨q, hq⟩
  · exact quart_tab 1 3 ⟨q, hq⟩
  · exact quart_tab 2 0 ⟨q, hq⟩
  · exact quart_tab 2 1 ⟨q, hq⟩
  · exact quart_tab 2 2 ⟨q, hq⟩
  · exact quart_tab 2 3 ⟨q, hq⟩
  · exact quart_tab 3 0 ⟨q, hq⟩
  · exact quart_tab 3 1 ⟨q, hq⟩
  · exact quart_tab 3 2 ⟨q, hq⟩
  · exact quart_tab 3 3 ⟨q, hq⟩
theorem xor_self_zero : ∀ k : Fin 4, Builtin.bitXor ((k.1 : Nat) : Int) 0 = ((k.1 : Nat) : Int) := by decide +kernel
theorem Tr_zero {d : Int} (hd : D4 d) : Tr 1 d 0 0 = (0, 0) := fin4 (P := fun d => Tr 1 d 0 0 = (0, 0)) (by decide +kernel) d hd
theorem Tr_two (g d x y a b : Int) : (Tr (2 * g) d (2 * x + a) (2 * y + b)).1 = 2 * (Tr g d x y).1 + (Tr 2 d a b).1 ∧ (Tr (2 * g) d (2 * x + a) (2 * y + b)).2 = 2 * (Tr g d x y).2 + (Tr 2 d a b).2 := by
  unfold Tr
  dsimp only
  constructor <;> (repeat' split) <;> omega
/-- the walk from any square, turned any way -/
theorem G_from : ∀ (K : Nat) (n : Nat) (x y d : Int), D4 d →
    G K (x, y, d) n = (2 ^ K * x + (Tr (2 ^ K) d (G K (0, 0, 0) n).1 (G K (0, 0, 0) n).2.1).1, 2 ^ K * y + (Tr (2 ^ K) d (G K (0, 0, 0) n).1 (G K (0, 0, 0) n).2.1).2, Builtin.bitXor d (G K (0, 0, 0) n).2.2) ∧ D4 (G K (0, 0, 0) n).2.2 ∧ 0 ≤ (G K (0, 0, 0) n).1 ∧ (G K (0, 0, 0) n).1 < 2 ^ K ∧ 0 ≤ (G K (0, 0, 0) n).2.1 ∧ (G K (0, 0, 0) n).2.1 < 2 ^ K
  | 0, n, x, y, d, hd => by
    have := Tr_zero hd
    have h0 : Builtin.bitXor d 0 = d := fin4 (P := fun d => Builtin.bitXor d 0 = d) (fun k => xor_self_zero k) d hd
    simp only [G, Int.pow_zero]
    rw [this, h0]
    refine ⟨by simp, .inl rfl, by decide, by decide, by decide, by decide⟩
  | K + 1, n, x, y, d, hd => by
    obtain ⟨h1, h2, h3, h4, h5, h6⟩ := G_from K (n / 4) x y d hd
    obtain ⟨q1, q2, q3, q4, q5, q6, q7⟩ := quart hd h2 (show n % 4 < 4 by omega)
    rw [G, h1, G]
    generalize hP : G K (0, 0, 0) (n / 4) = P at *
    obtain ⟨px, py, pd⟩ := P
    dsimp only at *
    rw [bstep_lin px py pd, bstep_lin, q1]
    generalize hB : bstep (0, 0, pd) (n % 4) = B at *
    have t := Tr_two (2 ^ K) d px py B.1 B.2.1
    have e : (2 : Int) ^ (K + 1) = 2 * 2 ^ K := by rw [Int.pow_succ, Int.mul_comm]
    rw [e]
    dsimp only
    rw [t.1, t.2]
    have hp : (0 : Int) < 2 ^ K := Int.pow_pos (by decide)
    refine ⟨?_, q2, by omega, by omega, by omega, by omega⟩
    generalize (2 : Int) ^ K = g at *
    refine Prod.ext ?_ (Prod.ext ?_ rfl)
    · dsimp only; rw [Int.mul_assoc]; omega
    · dsimp only; rw [Int.mul_assoc]; omega
end Mine

-- H1c
namespace Mine
def nloop : Nat → Int × Int × Int → Int × Int × Int
  | 0, P => P
  | K + 1, P => nloop K (nturn K P)
theorem niter_loop (P : Int × Int × Int) : ∀ i, i ≤ 14 → nloop (14 - i) (niter P i) = nloop 14 P
  | 0, _ => rfl
  | i + 1, h => by
    rw [← niter_loop P i (by omega), show 14 - i = (13 - i) + 1 by omega, nloop, show 14 - (i + 1) = 13 - i by omega, niter]
theorem niter_14 (P : Int × Int × Int) : niter P 14 = nloop 14 P := niter_loop P 14 (by omega)
theorem first_tab : ∀ q : Fin 4, bstep (0, 0, 0) q.1 = (bX.getD q.1 0, bY.getD q.1 0, bM.getD q.1 0) ∧ D4 (bM.getD q.1 0) := by unfold D4; decide +kernel
theorem div_mul_add {g q t : Int} (hg : 0 < g) (h0 : 0 ≤ t) (h1 : t < g) : (g * q + t) / g = q ∧ (g * q + t) % g = t := by
  constructor
  · rw [Int.add_comm, Int.add_mul_ediv_left _ _ (Int.ne_of_gt hg), Int.ediv_eq_zero_of_lt h0 h1, Int.zero_add]
  · rw [Int.add_comm, Int.add_mul_emod_self_left, Int.emod_eq_of_lt h0 h1]
theorem nturn_q {k q : Nat} (hq : q < 4) {t v N : Int} (t0 : 0 ≤ t) (t1 : t < 2 ^ k) (v0 : 0 ≤ v) (v1 : v < 2 ^ k) :
    nturn k (2 ^ k * bX.getD q 0 + t, 2 ^ k * bY.getD q 0 + v, N) = ((Tr (2 ^ k) (bM.getD q 0) t v).1, (Tr (2 ^ k) (bM.getD q 0) t v).2, 4 * N + q) := by
  have hg : (0 : Int) < 2 ^ k := Int.pow_pos (by decide)
  unfold nturn
  dsimp only
  rw [(div_mul_add hg t0 t1).1, (div_mul_add hg t0 t1).2, (div_mul_add hg v0 v1).1, (div_mul_add hg v0 v1).2]
  rcases (show q = 0 ∨ q = 1 ∨ q = 2 ∨ q = 3 by omega) with rfl | rfl | rfl | rfl
  · rw [if_pos (by decide), if_pos (by decide)]; simp [Tr, bM, show Int.fmod 1 2 = 1 from rfl]
  · rw [if_pos (by decide), if_neg (by decide)]; simp [Tr, bM]
  · rw [if_neg (by decide), if_neg (by decide)]; simp [Tr, bM]
  · rw [if_neg (by decide), if_pos (by decide)]; simp [Tr, bM, show Int.fmod 3 2 = 1 from rfl]
theorem Tr_inv {g m x y : Int} : Tr g m (Tr g m x y).1 (Tr g m x y).2 = (x, y) := by
  unfold Tr
  dsimp only
  refine Prod.ext ?_ ?_ <;> dsimp only <;> (repeat' split) <;> omega
theorem Tr_rng {g m x y : Int} (x0 : 0 ≤ x) (x1 : x < g) (y0 : 0 ≤ y) (y1 : y < g) : 0 ≤ (Tr g m x y).1 ∧ (Tr g m x y).1 < g ∧ 0 ≤ (Tr g m x y).2 ∧ (Tr g m x y).2 < g := by
  unfold Tr
  dsimp only
  refine ⟨?_, ?_, ?_, ?_⟩ <;> (repeat' split) <;> omega
theorem G_first {K n : Nat} (hn : n < 4 ^ (K + 1)) : n / 4 ^ K < 4 ∧ G (K + 1) (0, 0, 0) n = G K (bX.getD (n / 4 ^ K) 0, bY.getD (n / 4 ^ K) 0, bM.getD (n / 4 ^ K) 0) (n % 4 ^ K) ∧ D4 (bM.getD (n / 4 ^ K) 0) := by
  have hp : 0 < 4 ^ K := Nat.pow_pos (by decide)
  have hq : n / 4 ^ K < 4 := by rw [Nat.div_lt_iff_lt_mul hp, Nat.mul_comm, ← Nat.pow_succ]; exact hn
  have ft := first_tab ⟨n / 4 ^ K, hq⟩
  refine ⟨hq, ?_, ft.2⟩
  rw [G_lead, Nat.mod_eq_of_lt hq]
  exact congrArg (fun P => G K P (n % 4 ^ K)) ft.1
theorem num_inv : ∀ (K n : Nat) (N : Int), n < 4 ^ K → (nloop K ((G K (0, 0, 0) n).1, (G K (0, 0, 0) n).2.1, N)).2.2 = N * 4 ^ K + n
  | 0, n, N, h => by
    have : n = 0 := by simpa using h
    subst this; simp [nloop, G]
  | K + 1, n, N, h => by
    obtain ⟨hq, e, hm⟩ := G_first h
    have hp : 0 < 4 ^ K := Nat.pow_pos (by decide)
    obtain ⟨f1, f2, f3, f4, f5, f6⟩ := G_from K (n % 4 ^ K) (bX.getD (n / 4 ^ K) 0) (bY.getD (n / 4 ^ K) 0) (bM.getD (n / 4 ^ K) 0) hm
    obtain ⟨r1, r2, r3, r4⟩ := Tr_rng (m := bM.getD (n / 4 ^ K) 0) f3 f4 f5 f6
    rw [e, f1]
    dsimp only
    rw [nloop, nturn_q hq r1 r2 r3 r4, Tr_inv]
    dsimp only
    rw [num_inv K (n % 4 ^ K) _ (Nat.mod_lt _ hp)]
    have e2 := Nat.div_add_mod n (4 ^ K)
    have e3 : ((n : Nat) : Int) = 4 ^ K * ((n / 4 ^ K : Nat) : Int) + ((n % 4 ^ K : Nat) : Int) := by
      conv => lhs; rw [← e2]
      push_cast; rfl
    rw [Int.pow_succ, e3]
    generalize ((n / 4 ^ K : Nat) : Int) = a
    generalize ((n % 4 ^ K : Nat) : Int) = b
    generalize (4 : Int) ^ K = c
    rw [Int.add_mul, Int.mul_assoc, Int.mul_comm 4, Int.mul_comm a c, Int.mul_assoc, Int.add_assoc]
theorem num_sur : ∀ (K : Nat) (a b N : Int), 0 ≤ a → a < 2 ^ K → 0 ≤ b → b < 2 ^ K → ∃ n : Nat, n < 4 ^ K ∧ (nloop K (a, b, N)).2.2 = N * 4 ^ K + n ∧ (G K (0, 0, 0) n).1 = a ∧ (G K (0, 0, 0) n).2.1 = b
  | 0, a, b, N, a0, a1, b0, b1 => by
    have ha : a = 0 := by simp at a1; omega
    have hb : b = 0 := by simp at b1; omega
    subst ha hb
    exact ⟨0, by simp, by simp [nloop], rfl, rfl⟩
  | K + 1, a, b, N, a0, a1, b0, b1 => by
    have hg : (0 : Int) < 2 ^ K := Int.pow_pos (by decide)
    have hp : 0 < 4 ^ K := Nat.pow_pos (by decide)
    rw [Int.pow_succ] at a1 b1
    have da := Int.mul_ediv_add_emod a (2 ^ K)
    have db := Int.mul_ediv_add_emod b (2 ^ K)
    have ta0 := Int.emod_nonneg a (Int.ne_of_gt hg)
    have ta1 := Int.emod_lt_of_pos a hg
    have tb0 := Int.emod_nonneg b (Int.ne_of_gt hg)
    have tb1 := Int.emod_lt_of_pos b hg
    have ra0 : 0 ≤ a / 2 ^ K := Int.ediv_nonneg a0 (Int.le_of_lt hg)
    have ra1 : a / 2 ^ K < 2 := Int.ediv_lt_of_lt_mul hg (by omega)
    have rb0 : 0 ≤ b / 2 ^ K := Int.ediv_nonneg b0 (Int.le_of_lt hg)
    have rb1 : b / 2 ^ K < 2 := Int.ediv_lt_of_lt_mul hg (by omega)
    obtain ⟨q, hq, hqx, hqy⟩ : ∃ q : Nat, q < 4 ∧ a / 2 ^ K = bX.getD q 0 ∧ b / 2 ^ K = bY.getD q 0 := by
      rcases (show a / 2 ^ K = 0 ∨ a / 2 ^ K = 1 by omega) with h1 | h1 <;> rcases (show b / 2 ^ K = 0 ∨ b / 2 ^ K = 1 by omega) with h2 | h2
      · exact ⟨0, by decide, h1, h2⟩
      · exact ⟨1, by decide, h1, h2⟩
      · exact ⟨3, by decide, h1, h2⟩
      · exact ⟨2, by decide, h1, h2⟩
    rw [hqx] at da
    rw [hqy] at db
    obtain ⟨r1, r2, r3, r4⟩ := Tr_rng (m := bM.getD q 0) ta0 ta1 tb0 tb1
    obtain ⟨n', hn', hv, hx, hy⟩ := num_sur K (Tr (2 ^ K) (bM.getD q 0) (a % 2 ^ K) (b % 2 ^ K)).1 (Tr (2 ^ K) (bM.getD q 0) (a % 2 ^ K) (b % 2 ^ K)).2 (4 * N + q) r1 r2 r3 r4
    have hlt : q * 4 ^ K + n' < 4 ^ (K + 1) := by
      rw [Nat.pow_succ, Nat.mul_comm (4 ^ K) 4]
      have : q * 4 ^ K ≤ 3 * 4 ^ K := Nat.mul_le_mul_right _ (by omega)
      omega
    have hd1 : (q * 4 ^ K + n') / 4 ^ K = q := by rw [Nat.mul_comm, Nat.mul_add_div hp, Nat.div_eq_of_lt hn', Nat.add_zero]
    have hd2 : (q * 4 ^ K + n') % 4 ^ K = n' := by rw [Nat.mul_comm, Nat.mul_add_mod, Nat.mod_eq_of_lt hn']
    refine ⟨q * 4 ^ K + n', hlt, ?_, ?_⟩
    · rw [nloop]
      conv => lhs; rw [← da, ← db]
      rw [nturn_q hq ta0 ta1 tb0 tb1, hv, Int.pow_succ]
      push_cast
      rw [Int.add_mul, Int.mul_assoc, Int.mul_comm 4, Int.mul_assoc, Int.add_assoc]
    · obtain ⟨_, e, hm⟩ := G_first hlt
      rw [hd1, hd2] at e
      rw [hd1] at hm
      obtain ⟨f1, _⟩ := G_from K n' (bX.getD q 0) (bY.getD q 0) (bM.getD q 0) hm
      rw [e, f1, hx, hy, Tr_inv]
      exact ⟨da, db⟩
theorem hil_num (n : Nat) (h : n < 16 ^ 6) : (niter ((hil n).1, (hil n).2.1, 0) 14).2.2 = n := by
  rw [niter_14, hil_G 7 n (by omega), num_inv 14 n 0 (by omega)]
  simp
theorem hil_sur (a b : Int) (h0 : 0 ≤ a) (h1 : a < 4096) (h2 : 0 ≤ b) (h3 : b < 4096) : 0 ≤ (niter (a, b, 0) 14).2.2 ∧ (niter (a, b, 0) 14).2.2 < 16 ^ 6 ∧ (hil (niter (a, b, 0) 14).2.2.toNat).1 = a ∧ (hil (niter (a, b, 0) 14).2.2.toNat).2.1 = b := by
  obtain ⟨n, hn, hv, hx, hy⟩ := num_sur 14 a b 0 h0 (by omega) h2 (by omega)
  rw [niter_14, hv, Int.zero_mul, Int.zero_add, Int.toNat_natCast]
  have hh : hil n = G 14 (0, 0, 0) n := hil_G 7 n (by omega)
  rw [← hh] at hx hy
  refine ⟨by omega, ?_, hx, hy⟩
  have hp := hil_pre n 6
  rw [hx, hy, show a / 4 ^ 6 = 0 by omega, show b / 4 ^ 6 = 0 by omega] at hp
  have hz := hil_num (n / 16 ^ 6) (by omega)
  rw [hp.1, hp.2, show (niter (0, 0, 0) 14).2.2 = 0 from by decide +kernel] at hz
  omega
end Mine

-- W1
namespace Mine
open PySem.Calls PySem.Spec
section
variable {prog : Program} {w : World} {A : Around} {E : Value → Shared → Prop} {s : Shared} {h₀ : Heap} {L : Addr} {m : Str → Option Value} {news : Led}
/-- x % 16 ** 6, seen as any number below it -/
theorem mod_any {a b : Int} {t u : Tok} {Q : Value → Shared → Prop} (hb : b = 16777216) (h : ∀ (N : Nat) (t' : Tok) (k : Nat), N < 16777216 → Q (.int (N : Int) t') { s with toks := k }) : wpAny (model prog w) A (binaryOp .Mod (.int a t) (.int b u)) Q E s := by
  subst hb
  refine mod_int' (by decide) ?_
  have h1 : 0 ≤ a.fmod 16777216 := Int.fmod_nonneg_of_pos _ (by decide)
  have h2 : a.fmod 16777216 < 16777216 := Int.fmod_lt_of_pos _ (by decide)
  have := h (a.fmod 16777216).toNat s.toks (s.toks + 1) (by omega)
  rwa [Int.toNat_of_nonneg h1] at this
theorem wordB_head (n : Nat) : (wordB n).take 1 ≠ [65] := by
  induction n using Nat.strongRecOn with
  | ind n ih =>
    by_cases h0 : n = 0
    · subst h0; rw [wordB_zero]; simp
    · rw [wordB_step h0]
      by_cases h1 : n / 16 = 0
      · rw [h1, wordB_zero]
        intro e
        have h2 : UInt8.ofNat (65 + n % 16) = 65 := by simpa using e
        have h3 := congrArg UInt8.toNat h2
        rw [UInt8.toNat_ofNat_of_lt' (by show _ < 256; omega)] at h3
        have : (65 : UInt8).toNat = 65 := by decide
        omega
      · have : (wordB (n / 16)).length ≠ 0 := by rw [wordB_step h1]; simp
        rw [List.take_append_of_le_length (by omega)]
        exact ih (n / 16) (by omega)
theorem head_cut {value slice : PySem.Expr} {n : Nat} {t tj : Tok} {Q : Value → Shared → Prop} (hF : Fr h₀ L s.heap m) (hN : News h₀ L s.heap news) (hn : n < 16 ^ 100)
    (h : ∀ h' b t' k, Fr h₀ L h' m → News h₀ L h' news → b ≠ #[65] → Q (.bytes b t') { s with heap := h', toks := k })
    (hs : subscripted slice false (.bytes (wordB n).toArray t) (.ref s.heap.objs.size) = operate [.ref s.heap.objs.size, .bytes (wordB n).toArray t] (getItem (.bytes (wordB n).toArray t) (.ref s.heap.objs.size)) := by with_unfolding_all rfl)
    (ht : ∀ r, letTemporaryGo value (.bytes (wordB n).toArray t) r = pure () := by intro _; with_unfolding_all rfl) :
    wpAny (model prog w) A (subscriptTail value slice (.bytes (wordB n).toArray t) (.ref s.heap.objs.size)) Q E { s with heap := s.heap.push { cls := .type "slice", data := .fields #[.none, .int 1 tj, .none] } } := by
  have hl := wordB_len 100 n hn
  refine KBc.slice_K hF hN rfl .none (.int _ _) (by rw [KBw.ints_length]; simp; omega) (fun h' t' k F' N' _ => ?_) hs ht
  refine h h' _ t' k F' N' ?_
  rw [KBc.picked_eq]
  intro e
  have e2 := congrArg Array.toList e
  simp only [Option.elim, List.drop_zero, Nat.sub_zero] at e2
  have e3 : clipAt (wordB n).toArray.size 1 = min 1 (wordB n).length := by rw [show (1 : Int) = ((1 : Nat) : Int) from rfl, clipAt_nat]; simp
  rw [e3] at e2
  apply wordB_head n
  rw [← e2]
  simp [List.take_eq_take_iff]
theorem ne_int_same {a : Int} {t u : Tok} {Q : Value → Shared → Prop} (h : Q (.bool false) s) : wpAny (model prog w) A (compareOp .NotEq (.int a t) (.int a u)) Q E s := by
  refine PyProof.Rows.ne_int ?_
  simpa using h
theorem eq_bytes_ne {a b : Array UInt8} {t u : Tok} {Q : Value → Shared → Prop} (hne : a ≠ b) (h : Q (.bool false) s) : wpAny (model prog w) A (compareOp .Eq (.bytes a t) (.bytes b u)) Q E s := by
  refine eq_bytes ?_
  have : (a.toList == b.toList) = false := by
    rw [beq_eq_false_iff_ne]
    intro e; exact hne (by simpa using congrArg List.toArray e)
  rw [this]; exact h
end
theorem int2ap_to {w : World} {p : Program} {loose : List Str} {mean : ExcName → Option Value} {mg mb : Str → Option Value} (news : Led) (n : Int) (t : Tok) (m : Nat) (hm : n.natAbs = m) (hn : m < 16 ^ 100) :
    FnSpec Challenge.rw_nq0005_01.row.prog w (hd.heap_39 w.params) p loose mean mg mb (.ref 21) [.int n t] 1 8 news (fun r n' => (∃ t, r = .bytes (wordB m).toArray t) ∧ n' = news) := by
  subst hm
  exact int2ap_spec news n t hn
theorem num_hil {w : World} {p : Program} {loose : List Str} {mean : ExcName → Option Value} {mg mb : Str → Option Value} (news : Led) (N : Nat) (hN : N < 16777216) (ta tb : Tok) :
    FnSpec Challenge.rw_nq0005_01.row.prog w (hd.heap_39 w.params) p loose mean mg mb (.ref 51) [.int (hil N).1 ta, .int (hil N).2.1 tb] 1 8 news (fun r n => (∃ t, r = .int (N : Int) t) ∧ n = news) := by
  have hb := hil_bound N (by omega)
  have := law_number (w := w) (p := p) (loose := loose) (mean := mean) (mg := mg) (mb := mb) news (hil N).1 (hil N).2.1 ta tb hb.1 hb.2.1 hb.2.2.1 hb.2.2.2
  rw [hil_num N (by omega)] at this
  exact this
theorem lt100a {N : Nat} (h : N < 16777216) : N < 16 ^ 100 := Nat.lt_trans h (by decide)
theorem lt100b {N : Nat} (h : N < 16777216) : N + 1 < 16 ^ 100 := Nat.lt_of_lt_of_le (Nat.succ_lt_succ h) (by decide)
theorem wordB_size {n : Nat} (h : n < 16 ^ 100) : (wordB n).toArray.size ≤ sizeLine := by
  have := wordB_len 100 n h
  rw [sizeLine_eq]; simp; omega
theorem wordB_map {n : Nat} (h : n < 16 ^ 100) : ((wordB n).toArray.toList.map fun c => ((c.toNat : Nat) : Int)).length ≤ 1000 := by
  have := wordB_len 100 n h
  simp; omega
theorem na1 (N : Nat) : (-1 * (N : Int)).natAbs = N := by omega
theorem na2 (N : Nat) : (1 * (N : Int)).natAbs = N := by omega
theorem na3 (N : Nat) : (-1 * ((N : Int) + 1)).natAbs = N + 1 := by omega
theorem na4 (N : Nat) : (1 * ((N : Int) + 1)).natAbs = N + 1 := by omega
end Mine

-- LB
section
set_option maxRecDepth 100000
namespace Mine
open PySem.Calls PySem.Spec
theorem bytes_len : typeLookup (.type "bytes") "__len__" = pure (some (.builtin "bytes.__len__")) := by rw [typeLookup_type, builtinLookup_eq_fast]; kernel_rfl
section
variable {prog : Program} {w : World} {A : Around} {E : Value → Shared → Prop} {s : Shared} {h₀ : Heap} {L : Addr} {m : Str → Option Value} {news : Led}
abbrev ByteAt (b : Array UInt8) (i : Nat) (v : Value) : Prop := ∃ c u, b[i]? = some c ∧ v = .int (c.toNat : Int) u
theorem ext_bytes {R : Result → Shared → Prop} (hh : A.handled = none) (b : Array UInt8) (t : Tok) (S : Addr) (c₀ : Nat) (hS : s.heap.get? S = some { cls := .type "list", data := .seq #[] c₀ })
    (hR : ∀ h' tk acc' c', (∀ d o, d ≠ S → s.heap.get? d = some o → h'.get? d = some o) → h'.get? S = some { cls := .type "list", dict := none, data := .seq acc' c', slots := #[] } →
      ItemsOf (ByteAt b) acc' b.size → R (.ok (.ret .none)) { s with heap := h', toks := tk }) (hn : b.size ≤ sizeLine) :
    wpAny (model prog w) A.in1 (Builtin.List.listExtendWith (.ref S) (.bytes b t) .none)
      (fun fin s' => match fin with | .done f => R (.ok f) s' | .again c' => c'.quiet = true ∧ codeAny (model prog w) A c' R s') (fun e s' => R (.error e) s') s := by
  have hSI : S ≠ s.heap.objs.size := Nat.ne_of_lt (Heap.lt_size hS)
  have hSf : S ∉ [s.heap.objs.size] := fun hm => hSI (List.mem_singleton.mp hm)
  unfold Builtin.List.listExtendWith
  refine wpAny_bind (wpAny_typeOf (T := "bytes") (typeIs_bytes s b t) ?_)
  have h1 : Builtin.List.listSameRef (.ref S) (.bytes b t) = false := rfl
  have h2 : (Value.type "bytes" == Value.type "list") = false := by decide
  have h3 : (Value.type "bytes" == Value.type "tuple") = false := by decide
  simp only [h1, h2, h3, Bool.or_false, Bool.false_eq_true, if_false]
  refine wpAny_bind (KBw.pyIter_bytes ?_)
  refine wpAny_bind (wpAny_holding ?_)
  unfold Builtin.List.listLengthHint
  refine wpAny_bind (wpAny_specialOf (T := "bytes") (typeIs_bytes _ b t) bytes_len ?_)
  wp_delta
  refine wpAny_bind (wpAny_isInstance (T := "bytes") (b := true) (typeIs_bytes _ b t) (by rw [isSubtype_type]; kernel_rfl) ?_)
  show wpAny _ _ (typeOf (Value.bytes b t) >>= _) _ _ _
  refine wpAny_bind (wpAny_typeOf (T := "bytes") (typeIs_bytes _ b t) ?_)
  refine wpAny_pure ?_
  have W := KBw.walks (prog := prog) (w := w) (A := A.in1) hh s.heap.objs.size b t
  have hst : KBw.IsBytesIter (s.heap.push { cls := .type "bytes_iterator", data := .fields #[.bytes b t, .int 0 0] }) s.heap.objs.size b t 0 := ⟨_, Heap.get?_push_size _ rfl, rfl, rfl⟩
  have key : ∀ (g : Heap) (c₁ : Nat), (∀ d o, d ≠ S → (s.heap.push { cls := .type "bytes_iterator", data := .fields #[.bytes b t, .int 0 0] }).get? d = some o → g.get? d = some o) → g.get? S = some { cls := .type "list", data := .seq #[] c₁ } →
      codeAny (model prog w) A (.builtin "list.extend.loop" ⟨[.ref S, .ref s.heap.objs.size, .none], []⟩) R { s with heap := g } := by
    intro g c₁ hg hSg
    have hst' : KBw.IsBytesIter g s.heap.objs.size b t 0 := let ⟨o, ho, r⟩ := hst; ⟨o, hg _ _ (Ne.symm hSI) ho, r⟩
    refine codeAny_extend_loopS W.toS hn _ hSf _ b.size 0 { s with heap := g } _ _ rfl (Nat.zero_le _) hst' hSg (ItemsOf.nil _) fun s' acc' c' hm hS' hacc => ?_
    rw [Moved.eq_with hm]
    refine hR s'.heap s'.toks acc' c' (fun d ob hd e => hm.heap d ob (fun hmem => ?_) (hg d ob hd (Heap.get?_push_of_some _ e))) hS' hacc
    rcases List.mem_cons.mp hmem with e' | hmem
    · exact hd e'
    · exact absurd (Heap.lt_size e) (by rw [List.mem_singleton.mp hmem]; exact Nat.lt_irrefl _)
  have hS₁ := Heap.get?_push_of_some { cls := .type "bytes_iterator", data := .fields #[.bytes b t, .int 0 0] } hS
  refine wpAny_ite_split (fun _ => ?_) (fun _ => wpAny_pure ⟨plainId_quiet PySem.F.plain_extend_loop _, key _ c₀ (fun d o _ e => e) hS₁⟩)
  refine wpAny_bind (wpAny_rule ?_)
  refine wpAny_bind ?_
  show wpAny _ _ (updateSeq S (·.push .none) >>= fun _ => updateSeq S (·.pop)) _ _ _
  refine wpAny_bind (wpAny_updateSeq hS₁ rfl ?_)
  have hS₂ := Heap.get?_update_self (Obj.mapSeq (·.push Value.none)) hS₁ rfl
  refine wpAny_updateSeq (hz := by seq_fits) hS₂ rfl ?_
  have hS₃ := Heap.get?_update_self (Obj.mapSeq (·.pop)) hS₂ rfl
  refine wpAny_pure ⟨plainId_quiet PySem.F.plain_extend_loop _, key _ _ (fun d o hd e => ?_) hS₃⟩
  exact (Heap.get?_update_other _ _ (Ne.symm hd)).trans ((Heap.get?_update_other _ _ (Ne.symm hd)).trans e)
theorem items_ints {b : Array UInt8} {acc : Array Value} (h : ItemsOf (ByteAt b) acc b.size) : IntsAre acc.toList (b.toList.map fun c => ((c.toNat : Nat) : Int)) := by
  obtain ⟨h1, h2⟩ := h
  have key : ∀ (l : List Value) (m : List UInt8), l.length = m.length → (∀ (j : Nat) (v : Value), l[j]? = some v → ∃ (c : UInt8) (u : Tok), m[j]? = some c ∧ v = Value.int (c.toNat : Int) u) → IntsAre l (m.map fun c => ((c.toNat : Nat) : Int)) := by
    intro l
    induction l with
    | nil => intro m hm _; cases m with
      | nil => exact .nil
      | cons _ _ => simp at hm
    | cons v l ih =>
      intro m hm hj
      cases m with
      | nil => simp at hm
      | cons c m =>
        obtain ⟨c', u, e1, e2⟩ := hj 0 v rfl
        have : c = c' := by simpa using e1
        subst this e2
        exact .cons _ u (ih m (by simpa using hm) fun j v hv => hj (j + 1) v (by simpa using hv))
  exact key acc.toList b.toList (by simpa using h1) fun j v hv => by
    obtain ⟨c, u, e1, e2⟩ := h2 j v (by simpa using hv)
    exact ⟨c, u, by simpa using e1, e2⟩
theorem list_bytes_K {b : Array UInt8} {t : Tok} {Q : Value → Shared → Prop} (hh : A.handled = none) (F : Fr h₀ L s.heap m) (N : News h₀ L s.heap news) (hn : b.size ≤ sizeLine)
    (h : ∀ D ws c h' tk, Fr h₀ L h' m → News h₀ L h' ((D, listOf ws.toArray c) :: news) → IntsAre ws (b.toList.map fun c => ((c.toNat : Nat) : Int)) → (∀ p ∈ news, p.1 < D) → Q (.ref D) { s with heap := h', toks := tk }) :
    wpAny (model prog w) A (call (.type "list") [.bytes b t]) Q E s := by
  refine callType_codes (Q₁ := fun obj s₁ => obj = .ref s.heap.objs.size ∧ s₁ = { s with heap := s.heap.push { cls := .type "list", data := .seq #[] } }) PySem.F.called_list (PySem.F.typeCall_list_1 _) PySem.F.entry_list_init
    (code_list_new _ ⟨rfl, rfl⟩) fun obj s₁ h₁ => ?_
  obtain ⟨rfl, rfl⟩ := h₁
  have hS : (s.heap.push { cls := .type "list", data := .seq #[] }).get? s.heap.objs.size = some { cls := .type "list", data := .seq #[] } := Heap.get?_push_size _ rfl
  refine ⟨⟨_, hS, rfl⟩, PySem.F.args_list_init_2 _ _, ?_⟩
  show wpAny _ _ (do let old ← Builtin.List.listItems (.ref s.heap.objs.size); Builtin.List.listUpdate (.ref s.heap.objs.size) (fun _ => #[]); letGo old.toList.reverse; Builtin.List.listExtendWith (.ref s.heap.objs.size) (.bytes b t) .none) _ _ _
  refine wpAny_bind ?_
  unfold Builtin.List.listItems
  refine wpAny_bind (wpAny_seqItems hS rfl (wpAny_pure ?_))
  show wpAny _ _ (updateSeq s.heap.objs.size (fun _ => #[]) >>= fun _ => letGo (#[] : Array Value).toList.reverse >>= fun _ => Builtin.List.listExtendWith (.ref s.heap.objs.size) (.bytes b t) .none) _ _ _
  refine wpAny_bind (wpAny_updateSeq hS rfl ?_)
  have hS₂ := Heap.get?_update_self (Obj.mapSeq (fun _ => (#[] : Array Value))) hS rfl
  refine wpAny_bind (wpAny_letGo ?_)
  have hlt : ∀ d o, s.heap.get? d = some o → d ≠ s.heap.objs.size := fun d o e => Nat.ne_of_lt (Heap.lt_size e)
  have oth : ∀ d o, s.heap.get? d = some o → ((s.heap.push { cls := .type "list", data := .seq #[] }).update s.heap.objs.size (Obj.mapSeq (fun _ => (#[] : Array Value)))).get? d = some o :=
    fun d o e => (Heap.get?_update_other _ _ (Ne.symm (hlt d o e))).trans (Heap.get?_push_of_some _ e)
  refine ext_bytes (A := A.in1) hh b t _ _ hS₂ (fun h' tk acc' c' hk hS' hacc => ?_) hn
  have keep : ∀ d o, s.heap.get? d = some o → h'.get? d = some o := fun d o e => hk d o (hlt d o e) (oth d o e)
  have hzL : L < s.heap.objs.size := F.ns.lt
  refine ⟨rfl, h s.heap.objs.size acc'.toList c' h' tk (F.keeps keep) ?_ (items_ints hacc) fun p hp => Heap.lt_size (N p hp).1⟩
  intro p hp
  rcases List.mem_cons.mp hp with rfl | hp
  · exact ⟨by simpa using hS', Nat.ne_of_gt hzL, Heap.get?_none_of_le (Nat.le_trans F.above (Nat.le_of_lt hzL))⟩
  · exact ⟨keep _ _ (N p hp).1, (N p hp).2⟩
theorem add1_K {l b : Addr} {v : Value} {ws : List Value} {ks : List Int} {n1 n2 : Nat} {Q : Value → Shared → Prop} (F : Fr h₀ L s.heap m) (N : News h₀ L s.heap news) (hl : (l, listOf [v].toArray n1) ∈ news) (hb : (b, listOf ws.toArray n2) ∈ news) (hw : IntsAre ws ks) (hsz : ks.length ≤ 1000)
    (h : ∀ D h', Fr h₀ L h' m → News h₀ L h' ((D, listOf (v :: ws).toArray 0) :: news) → (∀ p ∈ news, p.1 < D) → Q (.ref D) { s with heap := h' }) :
    wpAny (model prog w) A (binaryOp .Add (.ref l) (.ref b)) Q E s :=
  add_lists (vs := [v]) (ws := ws) F N ⟨_, (N _ hl).1, rfl, n1, rfl⟩ ⟨_, (N _ hb).1, rfl, n2, rfl⟩ (fun h' F' N' => h _ h' F' N' fun p hp => Heap.lt_size (N p hp).1) (by rw [hw.length, sizeLine_eq]; simp; omega)
end
end Mine
end

-- W1b
namespace Mine
open PySem.Calls PySem.Spec
def zspot (N : Nat) : Int := (niter ((N : Int) / 4096, (N : Int) % 4096, 0) 14).2.2
theorem zspot_ok {N : Nat} (h : N < 16777216) : 0 ≤ zspot N ∧ zspot N < 16 ^ 6 ∧ (hil (zspot N).toNat).1 = (N : Int) / 4096 ∧ (hil (zspot N).toNat).2.1 = (N : Int) % 4096 := hil_sur _ _ (by omega) (by omega) (by omega) (by omega)
section
variable {prog : Program} {w : World} {A : Around} {E : Value → Shared → Prop} {s : Shared}
theorem mod_6 {N : Nat} {t u : Tok} {Q : Value → Shared → Prop} (h : Q (.int ((N % 6 : Nat) : Int) s.toks) { s with toks := s.toks + 1 }) : wpAny (model prog w) A (binaryOp .Mod (.int (N : Int) t) (.int 6 u)) Q E s := by
  refine mod_int' (by decide) ?_
  rw [Int.fmod_eq_emod_of_nonneg _ (by decide)]
  exact h
theorem mod_4096 {N : Nat} {t u : Tok} {Q : Value → Shared → Prop} (h : Q (.int ((N : Int) % 4096) s.toks) { s with toks := s.toks + 1 }) : wpAny (model prog w) A (binaryOp .Mod (.int (N : Int) t) (.int 4096 u)) Q E s := by
  refine mod_int' (by decide) ?_
  rw [Int.fmod_eq_emod_of_nonneg _ (by decide)]
  exact h
theorem fd_4096 {N : Nat} {t u : Tok} {Q : Value → Shared → Prop} (h : Q (.int ((N : Int) / 4096) s.toks) { s with toks := s.toks + 1 }) : wpAny (model prog w) A (binaryOp .FloorDiv (.int (N : Int) t) (.int 4096 u)) Q E s := by
  refine floordiv_int (by decide) ?_
  rw [Int.fdiv_eq_ediv_of_nonneg _ (by decide)]
  exact h
theorem fd_pow {a : Int} {c N : Nat} {t u : Tok} {Q : Value → Shared → Prop} (hc : 0 < c) (hc2 : c ≤ 16) (h : Q (.int (a / (c : Int) ^ (N % 6 + 1)) s.toks) { s with toks := s.toks + 1 }) : wpAny (model prog w) A (binaryOp .FloorDiv (.int a t) (.int ((c : Int) ^ ((((N % 6 : Nat) : Int) + 1).toNat)) u)) Q E s := by
  have hp : (0 : Int) < (c : Int) ^ (N % 6 + 1) := Int.pow_pos (by omega)
  have e : (((N % 6 : Nat) : Int) + 1).toNat = N % 6 + 1 := by omega
  rw [e]
  have hle : c ^ (N % 6 + 1) < 1073741824 := Nat.lt_of_le_of_lt (Nat.le_trans (Nat.pow_le_pow_left hc2 _) (Nat.pow_le_pow_right (by decide) (show N % 6 + 1 ≤ 6 by omega))) (by decide)
  refine floordiv_int (by omega) ?_ (.inl (PyProof.noPylong_small ?_))
  · rw [Int.fdiv_eq_ediv_of_nonneg _ (by omega)]
    exact h
  · have : ((c : Int) ^ (N % 6 + 1)) = ((c ^ (N % 6 + 1) : Nat) : Int) := by push_cast; rfl
    rw [this, Int.natAbs_natCast]; exact hle
theorem fd_16 {a : Int} {N : Nat} {t u : Tok} {Q : Value → Shared → Prop} (h : Q (.int (a / 16 ^ (N % 6 + 1)) s.toks) { s with toks := s.toks + 1 }) : wpAny (model prog w) A (binaryOp .FloorDiv (.int a t) (.int ((16 : Int) ^ ((((N % 6 : Nat) : Int) + 1).toNat)) u)) Q E s := fd_pow (c := 16) (by decide) (by decide) h
theorem fd_4 {a : Int} {N : Nat} {t u : Tok} {Q : Value → Shared → Prop} (h : Q (.int (a / 4 ^ (N % 6 + 1)) s.toks) { s with toks := s.toks + 1 }) : wpAny (model prog w) A (binaryOp .FloorDiv (.int a t) (.int ((4 : Int) ^ ((((N % 6 : Nat) : Int) + 1).toNat)) u)) Q E s := fd_pow (c := 4) (by decide) (by decide) h
theorem ne_int_is {a b : Int} {t u : Tok} {Q : Value → Shared → Prop} (e : a = b) (h : Q (.bool false) s) : wpAny (model prog w) A (compareOp .NotEq (.int a t) (.int b u)) Q E s := by
  subst e; exact ne_int_same h
end
theorem adj_if {N : Nat} (h : N < 16777216) :
    ((if (hfold (0, 0, 0) (wordB (N + 1))).1 - (hfold (0, 0, 0) (wordB N)).1 < 0 then -((hfold (0, 0, 0) (wordB (N + 1))).1 - (hfold (0, 0, 0) (wordB N)).1) else (hfold (0, 0, 0) (wordB (N + 1))).1 - (hfold (0, 0, 0) (wordB N)).1) +
      (if (hfold (0, 0, 0) (wordB (N + 1))).2.1 - (hfold (0, 0, 0) (wordB N)).2.1 < 0 then -((hfold (0, 0, 0) (wordB (N + 1))).2.1 - (hfold (0, 0, 0) (wordB N)).2.1) else (hfold (0, 0, 0) (wordB (N + 1))).2.1 - (hfold (0, 0, 0) (wordB N)).2.1)) = 1 := by
  have := hil_adj N (by omega)
  unfold hil at this
  split <;> split <;> omega
theorem na5 (N k : Nat) : ((N : Int) / 16 ^ k).natAbs = N / 16 ^ k := by
  have : ((N : Int) / 16 ^ k) = ((N / 16 ^ k : Nat) : Int) := by push_cast; rfl
  rw [this, Int.natAbs_natCast]
theorem na6 {N : Nat} (h : N < 16777216) : (-(zspot N)).natAbs = (zspot N).toNat := by
  have := (zspot_ok h).1
  omega
theorem lt100c {N k : Nat} (h : N < 16777216) : N / 16 ^ k < 16 ^ 100 := Nat.lt_of_le_of_lt (Nat.div_le_self _ _) (lt100a h)
theorem lt100d {N : Nat} (h : N < 16777216) : (zspot N).toNat < 16 ^ 100 := by
  have := (zspot_ok h).2.1
  exact lt100a (by omega)
def OnTop2 (nx : Led) (a b : Int) (r : Value) (n : Led) : Prop := ∃ t' tx ty d td, r = .ref t' ∧ n = (t', tupO [.int a tx, .int b ty, .int d td]) :: nx
section
variable {w : World} {p : Program} {loose : List Str} {mean : ExcName → Option Value} {mg mb : Str → Option Value} {name qual : Str} {params : Arguments} {body : PySem.Expr} {scope : Scope} {clos : List (Str × Addr)} {pm : Value} {c' : Addr} {ctv : Value} {oc : Obj} {vs : Array Value} {t : Tok} {f st cell sq : Addr} {ocell : Obj} {nx : Led}
theorem red_pre (hlam : LamOk w p loose mean mg mb f (L1 name qual params body scope clos pm c' ctv oc vs t f st cell sq ocell)) (hG : L1 name qual params body scope clos pm c' ctv oc vs t f st cell sq ocell nx) (N K : Nat) (tb : Tok) :
    FnSpec Challenge.rw_nq0005_01.row.prog w (hd.heap_39 w.params) p loose mean mg mb (.ref 30) [.ref f, .bytes (wordB (N / 16 ^ K)).toArray tb, .ref st] 3 24 nx (OnTop2 nx ((hfold (0, 0, 0) (wordB N)).1 / 4 ^ K) ((hfold (0, 0, 0) (wordB N)).2.1 / 4 ^ K)) := by
  refine (red_word hlam hG (N / 16 ^ K) tb).mono (fun _ h => h) (Nat.le_refl _) (Nat.le_refl _) fun r n h => ⟨n, fun _ h => h, ?_⟩
  obtain ⟨t', tx, ty, td, rfl, rfl⟩ := h
  have := hil_pre N K
  unfold hil at this
  rw [← this.1, ← this.2]
  exact ⟨t', tx, ty, _, td, rfl, rfl⟩
theorem red_spot (hlam : LamOk w p loose mean mg mb f (L1 name qual params body scope clos pm c' ctv oc vs t f st cell sq ocell)) (hG : L1 name qual params body scope clos pm c' ctv oc vs t f st cell sq ocell nx) (N : Nat) (hN : N < 16777216) (tb : Tok) :
    FnSpec Challenge.rw_nq0005_01.row.prog w (hd.heap_39 w.params) p loose mean mg mb (.ref 30) [.ref f, .bytes (wordB (zspot N).toNat).toArray tb, .ref st] 3 24 nx (OnTop2 nx ((N : Int) / 4096) ((N : Int) % 4096)) := by
  refine (red_word hlam hG (zspot N).toNat tb).mono (fun _ h => h) (Nat.le_refl _) (Nat.le_refl _) fun r n h => ⟨n, fun _ h => h, ?_⟩
  obtain ⟨t', tx, ty, td, rfl, rfl⟩ := h
  have := (zspot_ok hN).2.2
  unfold hil at this
  rw [← this.1, ← this.2]
  exact ⟨t', tx, ty, _, td, rfl, rfl⟩
theorem num_spot (news : Led) (N : Nat) (hN : N < 16777216) (ta tb : Tok) :
    FnSpec Challenge.rw_nq0005_01.row.prog w (hd.heap_39 w.params) p loose mean mg mb (.ref 51) [.int ((N : Int) / 4096) ta, .int ((N : Int) % 4096) tb] 1 8 news (fun r n => (∃ t, r = .int (zspot N) t) ∧ n = news) :=
  law_number news _ _ ta tb (by omega) (by omega) (by omega) (by omega)
end
end Mine

-- TS
namespace Mine
open PySem.Calls PySem.Spec
section
variable {prog : Program} {w : World} {A : Around} {E : Value → Shared → Prop} {s : Shared} {h₀ : Heap} {L : Addr} {m : Str → Option Value} {news : Led}
theorem applied_2of3 {sl : Addr} {u : Tok} {Q : Int × Int × Nat → Shared → Prop} (hs : s.heap.IsSliceOf sl .none (.int 2 u) .none) (h : Q ((0 : Int), 1, 2) s) :
    wpAny (model prog w) A (Builtin.Slice.sliceApplied (.ref sl) (pure (3 : Int))) Q E s := by
  obtain ⟨os, hos, hcs, hds⟩ := id hs
  unfold Builtin.Slice.sliceApplied Builtin.Slice.sliceFields
  refine wpAny_bind (wpAny_bind (wpAny_field hos hds (x := .none) rfl (wpAny_bind (wpAny_field hos hds (x := .int 2 u) rfl (wpAny_bind (wpAny_field hos hds (x := .none) rfl (wpAny_pure ?_)))))))
  refine wpAny_bind (slicePart_none ?_)
  show wpAny _ _ (if ((1 : Int) == 0) = true then _ else _) _ _ s
  rw [if_neg (by decide)]
  refine wpAny_bind (slicePart_none (wpAny_bind (slicePart_int (wpAny_bind (wpAny_pure ?_)))))
  exact wpAny_pure h
theorem slice_tup2 {value slice : PySem.Expr} {t : Addr} {x y z : Value} {u : Tok} {Q : Value → Shared → Prop} (F : Fr h₀ L s.heap m) (N : News h₀ L s.heap news) (ht : (t, tupO [x, y, z]) ∈ news)
    (h : ∀ D h', Fr h₀ L h' m → News h₀ L h' ((D, tupO [x, y]) :: news) → (∀ p ∈ news, p.1 < D) → Q (.ref D) { s with heap := h' })
    (hs : subscripted slice false (.ref t) (.ref s.heap.objs.size) = operate [.ref s.heap.objs.size, .ref t] (getItem (.ref t) (.ref s.heap.objs.size)) := by with_unfolding_all rfl)
    (hg : ∀ r, letTemporaryGo value (.ref t) r = pure () := by intro _; with_unfolding_all rfl) :
    wpAny (model prog w) A (subscriptTail value slice (.ref t) (.ref s.heap.objs.size)) Q E { s with heap := s.heap.push { cls := .type "slice", data := .fields #[.none, .int 2 u, .none] } } := by
  have ht0 : IsTup s.heap t #[x, y, z] := ⟨_, (N _ ht).1, rfl, _, rfl⟩
  have ht' : IsTup (s.heap.push { cls := .type "slice", data := .fields #[.none, .int 2 u, .none] }) t #[x, y, z] := ht0.keeps fun _ _ e => Heap.get?_push_of_some _ e
  have hsl : (s.heap.push { cls := .type "slice", data := .fields #[.none, .int 2 u, .none] }).IsSliceOf s.heap.objs.size .none (.int 2 u) .none := Heap.IsSliceOf.new ..
  refine subscriptTail_ops (s := { s with heap := s.heap.push { cls := .type "slice", data := .fields #[.none, .int 2 u, .none] } }) ht'.typeIs slot_tuple_getitem.lookup ?_ hs hg
  obtain ⟨os, hos, hcs, hds⟩ := id hsl
  have hTs : Shared.TypeIs { s with heap := s.heap.push { cls := .type "slice", data := .fields #[.none, .int 2 u, .none] } } (.ref s.heap.objs.size) "slice" := ⟨os, hos, hcs⟩
  unfold getItem
  try with_reducible refine wpAny_holding ?_
  first | refine wpAny_bind (wpAny_pure ?_) | skip
  refine wpAny_bind (wpAny_sequenceKey ht'.typeIs (by decide) ?_)
  refine wpAny_bind (wpAny_callSpecial?_slot (name := Str.ofString "__getitem__") ht'.typeIs slot_tuple_getitem
    (wpAny_call_entry slot_tuple_getitem ht'.typeIs entry_tuple_getitem ?_ (args_tuple_getitem _ _)))
  show wpAny _ _ (Builtin.Tuple.tupleItemsOf (.ref t) >>= _) _ _ _
  refine wpAny_bind (tupleItemsOf_ ht' ?_)
  refine wpAny_bind (wpAny_typeOf hTs ?_)
  rw [if_pos (by decide)]
  refine wpAny_bind (applied_2of3 hsl ?_)
  show wpAny _ _ (if ((0 : Int) == 0 && (1 : Int) == 1 && 2 == 3) = true then _ else _) _ _ _
  rw [if_neg (by decide)]
  have N1 := News.push (F.push { cls := .type "slice", data := .fields #[.none, .int 2 u, .none] }) (N.grown fun _ _ e => Heap.get?_push_of_some _ e) (tupO [x, y])
  have hlt : ∀ p ∈ news, p.1 < (s.heap.push { cls := .type "slice", data := .fields #[.none, .int 2 u, .none] }).objs.size := fun p hp => Heap.lt_size (Heap.get?_push_of_some _ (N p hp).1)
  have hq := h _ _ ((F.push _).push _) N1 hlt
  have hsz : sizeOk (.seq #[x, y]) := by show 2 ≤ sizeLine; rw [sizeLine_eq]; decide
  first
    | exact wpAny_bind (m := Builtin.Tuple.tupleExact _) (wpAny_newObj_type (wpAny_pure ⟨_, rfl, wpAny_pure hq⟩) hsz)
    | exact wpAny_bind (m := Builtin.Tuple.tupleExact _) (wpAny_newObj_type (wpAny_bind (wpAny_pure (wpAny_pure ⟨_, rfl, wpAny_pure hq⟩))) hsz)
    | exact wpAny_bind (wpAny_bind (m := Builtin.Tuple.tupleExact _) (wpAny_newObj_type (wpAny_pure (wpAny_pure ⟨_, rfl, wpAny_pure hq⟩)) hsz))
    | exact wpAny_bind (wpAny_bind (m := Builtin.Tuple.tupleExact _) (wpAny_newObj_type (wpAny_pure ⟨_, rfl, wpAny_pure hq⟩) hsz))
end
end Mine

open Mine
local macro_rules | `(tactic| walk_at "use squares") => `(tactic| (k_here; with_unfolding_all refine' FnSpec.use (law_squares _) ?k1 ?k2 ?k3 ?k4 ?k5 ?kK ?kd ?ku ?_; (case k1 => k_asm); (case k2 => k_asm); (case k3 => k_asm); (case k4 => k_asm); (case k5 => k_asm); (case kK => first | exact rfl | assumption); (case kd => ktr_room); (case ku => ktr_units)))
local macro_rules | `(tactic| walk_at "use int2ap") => `(tactic| (k_here; with_unfolding_all refine' FnSpec.use (int2ap_to _ _ _ _ ?km ?kn) ?k1 ?k2 ?k3 ?k4 ?k5 ?kK ?kd ?ku ?_; (case k1 => k_asm); (case k2 => k_asm); (case k3 => k_asm); (case k4 => k_asm); (case k5 => k_asm); (case kK => first | exact rfl | assumption); (case kd => ktr_room); (case ku => ktr_units); (case km => (first | exact na1 _ | exact na2 _ | exact na3 _ | exact na4 _ | exact na5 _ _ | exact na6 (by assumption) | fail "km")); (case kn => (first | exact lt100a (by assumption) | exact lt100b (by assumption) | exact lt100c (by assumption) | exact lt100d (by assumption)))))
local macro_rules | `(tactic| walk_at "use number") => `(tactic| (k_here; with_unfolding_all refine' FnSpec.use (num_hil _ _ (by assumption) _ _) ?k1 ?k2 ?k3 ?k4 ?k5 ?kK ?kd ?ku ?_; (case k1 => k_asm); (case k2 => k_asm); (case k3 => k_asm); (case k4 => k_asm); (case k5 => k_asm); (case kK => first | exact rfl | assumption); (case kd => ktr_room); (case ku => ktr_units)))
local macro_rules | `(tactic| walk_at "use step") => `(tactic| (k_here; with_unfolding_all refine' FnSpec.use (law_step _ _ _ _ _ _ _ _ _ _ _ (by assumption) (by assumption) (by assumption)) ?k1 ?k2 ?k3 ?k4 ?k5 ?kK ?kd ?ku ?_; (case k1 => k_asm); (case k2 => k_asm); (case k3 => k_asm); (case k4 => k_asm); (case k5 => k_asm); (case kK => first | exact rfl | assumption); (case kd => ktr_room); (case ku => ktr_units)))
local macro_rules | `(tactic| walk_at "use redlist") => `(tactic| (k_here; with_unfolding_all refine' FnSpec.use (red_list (by assumption) (L1.mono (by assumption) ?hs) _ _ _ _ (by assumption) ?hl) ?k1 ?k2 ?k3 ?k4 ?k5 ?kK ?kd ?ku ?_; (case k1 => k_asm); (case k2 => k_asm); (case k3 => k_asm); (case k4 => k_asm); (case k5 => k_asm); (case kK => first | exact rfl | assumption); (case kd => ktr_room); (case ku => ktr_units); (case hs => (repeat (first | exact fun _ h => h | refine sub_cons ?_))); (case hl => (k_mem))))
local macro_rules | `(tactic| walk_at "use redpre") => `(tactic| (k_here; with_unfolding_all refine' FnSpec.use (red_pre (by assumption) (L1.mono (by assumption) ?hs) _ _ _) ?k1 ?k2 ?k3 ?k4 ?k5 ?kK ?kd ?ku ?_; (case k1 => k_asm); (case k2 => k_asm); (case k3 => k_asm); (case k4 => k_asm); (case k5 => k_asm); (case kK => first | exact rfl | assumption); (case kd => ktr_room); (case ku => ktr_units); (case hs => (repeat (first | exact fun _ h => h | refine sub_cons ?_)))))
local macro_rules | `(tactic| walk_at "use redspot") => `(tactic| (k_here; with_unfolding_all refine' FnSpec.use (red_spot (by assumption) (L1.mono (by assumption) ?hs) _ (by assumption) _) ?k1 ?k2 ?k3 ?k4 ?k5 ?kK ?kd ?ku ?_; (case k1 => k_asm); (case k2 => k_asm); (case k3 => k_asm); (case k4 => k_asm); (case k5 => k_asm); (case kK => first | exact rfl | assumption); (case kd => ktr_room); (case ku => ktr_units); (case hs => (repeat (first | exact fun _ h => h | refine sub_cons ?_)))))
local macro_rules | `(tactic| walk_at "use numspot") => `(tactic| (k_here; with_unfolding_all refine' FnSpec.use (num_spot _ _ (by assumption) _ _) ?k1 ?k2 ?k3 ?k4 ?k5 ?kK ?kd ?ku ?_; (case k1 => k_asm); (case k2 => k_asm); (case k3 => k_asm); (case k4 => k_asm); (case k5 => k_asm); (case kK => first | exact rfl | assumption); (case kd => ktr_room); (case ku => ktr_units)))
local macro_rules | `(tactic| walk_at "use redword") => `(tactic| (k_here; with_unfolding_all refine' FnSpec.use (red_word (by assumption) (L1.mono (by assumption) ?hs) _ _) ?k1 ?k2 ?k3 ?k4 ?k5 ?kK ?kd ?ku ?_; (case k1 => k_asm); (case k2 => k_asm); (case k3 => k_asm); (case k4 => k_asm); (case k5 => k_asm); (case kK => first | exact rfl | assumption); (case kd => ktr_room); (case ku => ktr_units); (case hs => (repeat (first | exact fun _ h => h | refine sub_cons ?_)))))
local macro_rules | `(tactic| walk_at "enter lam") => `(tactic| (with_unfolding_all refine' kla_code ?k1 ?k2 ?k3 ?k4 ?k5 ?kA ?kF ?kK ?k6 ?k7 ?k8 ?k9 ?kB ?_ ?c2 ?c3 ?c4 ?c5; (case kA => exact rfl); (case kF => exact rfl); (case kK => assumption); (case k1 => k_asm); (case k2 => k_asm); (case k3 => k_asm); (case k4 => k_asm); (case k5 => k_asm); (case k6 => assumption); (case k7 => exact codeRec_news (by k_asm) (by assumption) (by assumption) (by assumption)); (case k8 => ktr_room); (case k9 => exact rfl); (case c5 => decide); (case kB => exact locs rfl); (case c2 => exact rfl); (case c3 => exact rfl); (case c4 => exact rfl); k_whole; intro g' L' h' FG' F' N' B' X' T'; (try dsimp only); (try k_lift B'); (try k_fold)))
local macro_rules | `(tactic| walk_at "binaryOp Mod int int") => `(tactic| (k_here; with_reducible refine mod_6 ?_))
local macro_rules | `(tactic| walk_at "binaryOp Mod int int") => `(tactic| (k_here; with_reducible refine mod_4096 ?_))
local macro_rules | `(tactic| walk_at "binaryOp FloorDiv int int") => `(tactic| (k_here; with_reducible refine fd_4096 ?_))
local macro_rules | `(tactic| walk_at "binaryOp FloorDiv int int") => `(tactic| (k_here; with_reducible refine fd_16 ?_))
local macro_rules | `(tactic| walk_at "binaryOp FloorDiv int int") => `(tactic| (k_here; with_reducible refine fd_4 ?_))
local macro_rules | `(tactic| walk_at "compareOp NotEq int int") => `(tactic| (k_here; with_reducible refine ne_int_is (adj_if (by assumption)) ?_))
local macro_rules | `(tactic| walk_at "binaryOp Mod int int") => `(tactic| (k_here; refine mod_any (by decide) ?_; intro N' t' k' hN'))
local macro_rules | `(tactic| walk_at "compareOp NotEq int int") => `(tactic| (k_here; with_reducible refine ne_int_same ?_))
local macro_rules | `(tactic| walk_at "subscriptTail Name Slice ref ref") => `(tactic| (k_here; (with_reducible show wpAny _ _ (subscriptTail _ (PySem.Expr.Slice none (some _) none _) (Value.ref _) (Value.ref _)) _ _ _); (with_reducible rename Fr _ _ _ _ => F'); (with_reducible rename News _ _ _ _ => N'); with_unfolding_all refine slice_tup2 (s := ⟨_, _, _, _, _⟩) F' N' (by k_mem) ?_; intro D' h' F' N' l1; (try k_lt l1)))
local macro_rules | `(tactic| k_all) => `(tactic| assumption)
local macro_rules | `(tactic| walk_at "turn end") => `(tactic| (refine' iturn_next () _ (by assumption) (News.sub (by assumption) ?hs) ?ha ?hk ?hr rfl; (case hs => repeat (first | exact fun _ h => h | refine sub_cons ?_)); (case ha => exact fun p hp => Nat.ne_of_lt ((by assumption : ∀ p ∈ _, p.1 < _) p hp)); (case hk => exact fun _ h => nomatch h); (case hr => (intro z h1 h2 h3; (simp only [List.contains_cons, List.contains_nil, Bool.or_false, Bool.or_eq_false_iff, beq_eq_false_iff_ne, ne_eq] at h3); simp [h1, h3]))))
set_option maxRecDepth 100000 in
set_option maxHeartbeats 8000000 in
theorem PySem.Challenge.cw_nq0005_01_holds : PySem.Challenge.rw_nq0005_01.Holds := by
  refine hd ?_
  w_strict (
    k_go0
    (all_goals try k_fold)
    k_with_none
    k_with "call ref" => ((with_reducible show wpAny _ _ (call (Value.ref 37) _) _ _ _); (
      walk_at "use squares"
      intro r' n' h' tk' F' N' hR'
      obtain ⟨D', more', rfl, rfl, hsq', hord'⟩ := hR'
      replace N' := news_swap2 N'
      obtain ⟨hm1', hm2'⟩ := ord2 hord'
      dsimp only at hm1' hm2'))
    k_with "exec For Name BinOp" => (k_here; (rename Fr _ _ _ _ => lF'); (with_unfolding_all refine' For_invVF lF' ?k1 ?k2 ?_; (case k1 => exact rfl); (case k2 => exact rfl); k_whole))
    k_with "pyIter ref" => (
      k_here
      (rename Fr _ _ _ _ => lF'); (rename News _ _ _ _ => lN'); (rename IntsAre _ _ => iA')
      have hL1 := led1_of lN' (by assumption) (by assumption) (by assumption) (by assumption)
      with_unfolding_all refine' loop_list0 hL1 [Str.ofString "n", Str.ofString "sign", Str.ofString "word", Str.ofString "across", Str.ofString "above", Str.ofString "turn", Str.ofString "beside", Str.ofString "k", Str.ofString "square", Str.ofString "spot", Str.ofString "there"] ?hh lF' lN' List.mem_cons_self ?turn ?done
      case hh => with_unfolding_all exact rfl
      case' turn =>
        intro nw I i v u' h' tk' oI hG hI hv F' N'
        clear lF' lN' hL1
        obtain ⟨x, tx, rfl⟩ := ints_some iA' hv
        (rename Top topProg _ _ _ _ _ => lT'); (rename Frag.In _ _ => lX')
        refine have_lam lX' lT' hG ?lam ?rest
      case' lam =>
        unfold LamOk FnSpec
        intro nx x y d tx ty td tat i tl hG hi hat
        obtain ⟨hl, hcode, hcd, hcq, hcel, hceld, hsqs, hstrt⟩ := hG
        intro dp un gd cn cs a ccd cl outer A₀ base h₀ L m s Q E B F X N T hk hd' hu hret
        refine wpAny_call ?_
        walk_at "enter lam"
      case' rest =>
        intro hlam
      case' done =>
        intro u' h' tk' F' N'
        clear lF' lN' hL1)
    k_with "call ref" => ((with_reducible show wpAny _ _ (call (Value.ref 44) _) _ _ _); (
      walk_at "use step"
      intro r' n' h' tk' F' N' hR'
      unfold Made3 at hR'
      obtain ⟨t', tx', ty', td', rfl, hlt', rfl⟩ := hR'))
    k_with "call type:list" => (k_here; refine list_bytes_K (by with_unfolding_all exact rfl) (by k_asm) (by k_asm) ?_ ?_; (focus exact wordB_size (by first | exact lt100a (by assumption) | exact lt100b (by assumption))); intro D' ws' c' h' tk' F' N' hI' l1; (try k_lt l1))
    k_with "binaryOp Add ref ref" => (k_here; with_unfolding_all refine add1_K (by k_asm) (by k_asm) (by k_mem) (by k_mem) (by assumption) (wordB_map (by first | exact lt100a (by assumption) | exact lt100b (by assumption))) ?_; intro D' h' F' N' l1; (try k_lt l1))
    k_with "call ref" => ((with_reducible show wpAny _ _ (call (Value.ref 30) [Value.ref _, Value.ref _]) _ _ _); (
      walk_at "use redlist"
      intro r' n' h' tk' F' N' hR'
      unfold OnTop at hR'
      obtain ⟨t', tx', ty', td', rfl, rfl⟩ := hR'))
    k_with "subscriptTail Name Slice bytes ref" => (k_here; (with_reducible rename Fr _ _ _ _ => F'); (with_reducible rename News _ _ _ _ => N'); (refine head_cut (s := ⟨_, _, _, _, _⟩) F' N' (by first | exact lt100a (by assumption) | exact lt100b (by assumption)) ?_); intro h' b' t' k' F' N' hb')
    k_with "compareOp Eq bytes bytes" => (k_here; refine eq_bytes_ne (by assumption) ?_)
    k_with "call ref" => ((with_reducible show wpAny _ _ (call (Value.ref 51) _) _ _ _); (
      first | walk_at "use numspot" | walk_at "use number"
      intro r' n' h' tk' F' N' hR'
      obtain ⟨⟨t', rfl⟩, rfl⟩ := hR'))
    k_with "call ref" => ((with_reducible show wpAny _ _ (call (Value.ref 21) _) _ _ _); (
      walk_at "use int2ap"
      intro r' n' h' tk' F' N' hR'
      obtain ⟨⟨t', rfl⟩, rfl⟩ := hR'))
    k_with "call ref" => ((with_reducible show wpAny _ _ (call (Value.ref 30) [Value.ref _, Value.bytes _ _, Value.ref _]) _ _ _); (
      walk_at "use redword"
      intro r' n' h' tk' F' N' hR'
      unfold OnTop at hR'
      obtain ⟨t', tx', ty', td', rfl, rfl⟩ := hR'))
    k_with "call ref" => ((with_reducible show wpAny _ _ (call (Value.ref 30) [Value.ref _, Value.bytes (List.toArray (wordB (_ / _))) _, Value.ref _]) _ _ _); (
      walk_at "use redpre"
      intro r' n' h' tk' F' N' hR'
      unfold OnTop2 at hR'
      obtain ⟨t', tx', ty', d', td', rfl, rfl⟩ := hR'))
    k_with "call ref" => ((with_reducible show wpAny _ _ (call (Value.ref 30) [Value.ref _, Value.bytes (List.toArray (wordB (Int.toNat _))) _, Value.ref _]) _ _ _); (
      walk_at "use redspot"
      intro r' n' h' tk' F' N' hR'
      unfold OnTop2 at hR'
      obtain ⟨t', tx', ty', d', td', rfl, rfl⟩ := hR'))
    k_steps
    all_goals first | (exact hret _ _ _ _ (by k_asm) (by k_asm) ⟨_, _, _, _, rfl, by assumption, rfl⟩) | walk_at "turn end")
#print axioms PySem.Challenge.cw_nq0005_01_holds

