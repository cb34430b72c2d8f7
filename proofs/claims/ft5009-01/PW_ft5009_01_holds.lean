import PyProof.Rows.All
import Wide.All
import OpenK.AllK
import Wide.FinOn
import Lean
import PySem.Challenge.RW_ft5009_01
/-! The law of unhexlify. The parts: one contract for each def of the text (the calls of unhexlify
with a good and with a bad text, of hexlify, of _law_text, of _law_refused), each proved once; then the
law's own walk, whose lines use the contracts. -/
set_option Elab.async false
set_option maxRecDepth 100000
set_option maxHeartbeats 8000000

section
open PySem PySem.W PyProof.Rows
namespace Mine

/-! ### zip over two plain texts -/
abbrev AIt (h : Heap) (it : Addr) (x : Str) (t : Tok) (i : Nat) : Prop := h.IsStrIter it "str_ascii_iterator" x t i

theorem AIt.at {h h' : Heap} {it : Addr} {x : Str} {t : Tok} {i : Nat} (y : AIt h it x t i) (hk : ∀ o, h.get? it = some o → h'.get? it = some o) : AIt h' it x t i :=
  let ⟨o, ho, r⟩ := y; ⟨o, hk o ho, r⟩
theorem AIt.lt {h : Heap} {it : Addr} {x : Str} {t : Tok} {i : Nat} (y : AIt h it x t i) : it < h.objs.size :=
  let ⟨_, ho, _⟩ := y; Heap.lt_size ho

structure ZA (z TI TO i1 i2 : Addr) : Prop where
  TIz : TI ≠ z
  TOz : TO ≠ z
  i1z : i1 ≠ z
  i2z : i2 ≠ z
  TITO : TI ≠ TO
  TIi1 : TI ≠ i1
  TIi2 : TI ≠ i2
  TOi1 : TO ≠ i1
  TOi2 : TO ≠ i2
  i12 : i1 ≠ i2

section
variable {prog : Program} {w : World} {A : Around} {E : Value → Shared → Prop} {s : Shared}

theorem zipS_item {z TI TO i1 i2 : Addr} {k1 k2 : Nat} {x y : Str} {tx ty : Tok} {c d : Nat} {a b : Value} {Q : Value → Shared → Prop} (D : ZA z TI TO i1 i2)
    (hz : IsZip s.heap z TI TO .none) (hTI : IsPair s.heap TI (.ref i1) (.ref i2)) (hTO : IsPair s.heap TO a b)
    (h1 : AIt s.heap i1 x tx k1) (h2 : AIt s.heap i2 y ty k2) (hx : x.cps[k1]? = some c) (hy : y.cps[k2]? = some d)
    (hQ : ∀ h' t1 t2 tk, IsZip h' z TI TO (rawInt s.heap.objs.size) → IsPair h' TO (.str ⟨#[c]⟩ t1) (.str ⟨#[d]⟩ t2) → AIt h' i1 x tx (k1 + 1) → AIt h' i2 y ty (k2 + 1) →
      IsPair h' s.heap.objs.size (.str ⟨#[c]⟩ t1) (.str ⟨#[d]⟩ t2) → h'.objs.size = s.heap.objs.size + 1 →
      (∀ e o, e ≠ z → e ≠ TO → e ≠ i1 → e ≠ i2 → s.heap.get? e = some o → h'.get? e = some o) → Q (.ref s.heap.objs.size) { s with heap := h', toks := tk }) :
    wpAny (model prog w) A (Builtin.«zip.__next__» ⟨[.ref z], []⟩) (fun fin s' => ∃ v, fin = .done (.ret v) ∧ Q v s') E s := by
  show wpAny _ _ (field (.ref z) 2 >>= _) _ _ _
  refine wpAny_bind (wpAny_field hz rfl (x := .bool false) rfl ?_)
  show wpAny _ _ (field (.ref z) 3 >>= _) _ _ _
  refine wpAny_bind (wpAny_field hz rfl (x := .ref TI) rfl ?_)
  refine wpAny_bind (wpAny_seqItems hTI rfl ?_)
  show wpAny _ _ (Builtin.SmallTypes.ownedTupleIsFree (.ref z) >>= _) _ _ _
  refine wpAny_bind ?_
  unfold Builtin.SmallTypes.ownedTupleIsFree
  refine wpAny_bind (wpAny_field hz rfl (x := .none) rfl (wpAny_pure ?_))
  simp only [if_true]
  refine wpAny_bind (wpAny_rule ?_)
  refine wpAny_bind (wpAny_field hz rfl (x := .ref TO) rfl ?_)
  refine wpAny_bind (wpAny_setField_rec hz (by simp) fun h₁ hz₁ hs₁ => ?_)
  replace hz₁ : IsZip h₁ z TI TO .ellipsis := hz₁
  refine wpAny_bind ?_
  simp only [List.zipIdx_cons, List.zipIdx_nil, List.forIn_cons, List.forIn_nil]
  refine wpAny_bind (wpAny_bind (wpAny_onRaise ?_))
  show wpAny _ _ (Builtin.SmallTypes.nextOf (.ref i1) >>= _) _ _ _
  refine wpAny_bind (wpAny_nextOf_ascii_item (h1.extBut hs₁.extBut D.i1z) hx fun h₂ h1₂ hs₂ => wpAny_pure ?_)
  have hTO₂ : IsPair h₂ TO a b := hs₂.extBut _ _ D.TOi1 (hs₁.extBut _ _ D.TOz hTO)
  refine wpAny_bind (wpAny_seqItems hTO₂ rfl ?_)
  refine wpAny_bind (wpAny_updateSeq_pair hTO₂ fun h₃ hTO₃ hs₃ => ?_)
  replace hTO₃ : IsPair h₃ TO (.str ⟨#[c]⟩ s.toks) b := hTO₃
  refine wpAny_bind (wpAny_letGo (wpAny_pure ?_))
  refine wpAny_bind (wpAny_bind (wpAny_onRaise ?_))
  show wpAny _ _ (Builtin.SmallTypes.nextOf (.ref i2) >>= _) _ _ _
  refine wpAny_bind (wpAny_nextOf_ascii_item (((h2.extBut hs₁.extBut D.i2z).extBut hs₂.extBut D.i12.symm).extBut hs₃.extBut D.TOi2.symm) hy fun h₄ h2₄ hs₄ => wpAny_pure ?_)
  have hTO₄ : IsPair h₄ TO (.str ⟨#[c]⟩ s.toks) b := hs₄.extBut _ _ D.TOi2 hTO₃
  refine wpAny_bind (wpAny_seqItems hTO₄ rfl ?_)
  refine wpAny_bind (wpAny_updateSeq_pair hTO₄ fun h₅ hTO₅ hs₅ => ?_)
  replace hTO₅ : IsPair h₅ TO (.str ⟨#[c]⟩ s.toks) (.str ⟨#[d]⟩ (s.toks + 1)) := hTO₅
  refine wpAny_bind (wpAny_letGo (wpAny_pure (wpAny_pure ?_)))
  refine wpAny_bind (wpAny_seqItems hTO₅ rfl ?_)
  refine wpAny_bind (wpAny_newTuple ?_)
  have hsz : h₅.objs.size = s.heap.objs.size := by rw [hs₅.1, hs₄.1, hs₃.1, hs₂.1, hs₁.1]
  have hz₅ : IsZip h₅ z TI TO .ellipsis := hs₅.extBut _ _ D.TOz.symm (hs₄.extBut _ _ D.i2z.symm (hs₃.extBut _ _ D.TOz.symm (hs₂.extBut _ _ D.i1z.symm hz₁)))
  have hk₅ : ∀ e o, e ≠ z → e ≠ TO → e ≠ i1 → e ≠ i2 → s.heap.get? e = some o → h₅.get? e = some o := fun e o c1 c2 c3 c4 q =>
    hs₅.extBut _ _ c2 (hs₄.extBut _ _ c4 (hs₃.extBut _ _ c2 (hs₂.extBut _ _ c3 (hs₁.extBut _ _ c1 q))))
  have h1₅ : AIt h₅ i1 x tx (k1 + 1) := ((h1₂.extBut hs₃.extBut D.TOi1.symm).extBut hs₄.extBut D.i12).extBut hs₅.extBut D.TOi1.symm
  have h2₅ : AIt h₅ i2 y ty (k2 + 1) := h2₄.extBut hs₅.extBut D.TOi2.symm
  have hzlt : z < h₅.objs.size := Heap.lt_size hz₅
  show wpAny _ _ (Builtin.SmallTypes.ownedTupleHandOut (.ref z) (.ref h₅.objs.size) >>= _) _ _ _
  refine wpAny_bind ?_
  unfold Builtin.SmallTypes.ownedTupleHandOut
  have hz₆ : IsZip (h₅.push { cls := .type "tuple", data := .seq #[.str ⟨#[c]⟩ s.toks, .str ⟨#[d]⟩ (s.toks + 1)] }) z TI TO .ellipsis := Heap.get?_push_of_some _ hz₅
  refine wpAny_bind (wpAny_setField_rec hz₆ (by simp) fun h₇ hz₇ hs₇ => ?_)
  replace hz₇ : IsZip h₇ z TI TO (rawInt h₅.objs.size) := hz₇
  refine wpAny_setField_rec hz₇ (by simp) fun h₈ hz₈ hs₈ => ?_
  replace hz₈ : IsZip h₈ z TI TO (rawInt h₅.objs.size) := hz₈
  have up : ∀ e o, e ≠ z → h₅.get? e = some o → h₈.get? e = some o := fun e o c1 q => hs₈.extBut _ _ c1 (hs₇.extBut _ _ c1 (Heap.get?_push_of_some _ q))
  have hT₈ : IsPair h₈ h₅.objs.size (.str ⟨#[c]⟩ s.toks) (.str ⟨#[d]⟩ (s.toks + 1)) := hs₈.extBut _ _ (Nat.ne_of_gt hzlt) (hs₇.extBut _ _ (Nat.ne_of_gt hzlt) (Heap.get?_push_size _ rfl))
  have hz8 : h₈.objs.size = h₅.objs.size + 1 := by rw [hs₈.1, hs₇.1, Heap.size_push]
  rw [hsz] at hz₈ hT₈ hz8
  refine wpAny_pure ⟨_, rfl, ?_⟩
  show Q (.ref h₅.objs.size) _
  rw [hsz]
  exact hQ h₈ _ _ _ hz₈ (up _ _ D.TOz hTO₅) (h1₅.at fun o q => up _ o D.i1z q) (h2₅.at fun o q => up _ o D.i2z q) hT₈ hz8 fun e o c1 c2 c3 c4 q => up e o c1 (hk₅ e o c1 c2 c3 c4 q)

theorem zipS_end {z TI TO i1 i2 : Addr} {k1 : Nat} {x : Str} {tx : Tok} {a b : Value} {Q : Fin → Shared → Prop} (hh : A.handled = none) (D : ZA z TI TO i1 i2)
    (hz : IsZip s.heap z TI TO .none) (hTI : IsPair s.heap TI (.ref i1) (.ref i2)) (hTO : IsPair s.heap TO a b)
    (h1 : AIt s.heap i1 x tx k1) (hx : x.cps[k1]? = none)
    (hE : ∀ h' e, (∀ c o, c ≠ z → c ≠ i1 → s.heap.get? c = some o → h'.get? c = some o) → (∃ o, h'.get? e = some o ∧ o.cls = .type "StopIteration") → E (.ref e) { s with heap := h' }) :
    wpAny (model prog w) A (Builtin.«zip.__next__» ⟨[.ref z], []⟩) Q E s := by
  show wpAny _ _ (field (.ref z) 2 >>= _) _ _ _
  refine wpAny_bind (wpAny_field hz rfl (x := .bool false) rfl ?_)
  show wpAny _ _ (field (.ref z) 3 >>= _) _ _ _
  refine wpAny_bind (wpAny_field hz rfl (x := .ref TI) rfl ?_)
  refine wpAny_bind (wpAny_seqItems hTI rfl ?_)
  show wpAny _ _ (Builtin.SmallTypes.ownedTupleIsFree (.ref z) >>= _) _ _ _
  refine wpAny_bind ?_
  unfold Builtin.SmallTypes.ownedTupleIsFree
  refine wpAny_bind (wpAny_field hz rfl (x := .none) rfl (wpAny_pure ?_))
  simp only [if_true]
  refine wpAny_bind (wpAny_rule ?_)
  refine wpAny_bind (wpAny_field hz rfl (x := .ref TO) rfl ?_)
  refine wpAny_bind (wpAny_setField_rec hz (by simp) fun h₁ hz₁ hs₁ => ?_)
  replace hz₁ : IsZip h₁ z TI TO .ellipsis := hz₁
  refine wpAny_bind ?_
  simp only [List.zipIdx_cons, List.zipIdx_nil, List.forIn_cons, List.forIn_nil]
  refine wpAny_bind (wpAny_bind (wpAny_onRaise ?_))
  show wpAny _ _ (Builtin.SmallTypes.nextOf (.ref i1) >>= _) _ _ _
  refine wpAny_bind (wpAny_nextOf_ascii_end hh (h1.extBut hs₁.extBut D.i1z) hx fun h₂ e hs₂ he => ?_)
  obtain ⟨oe, hoe, hce⟩ := he
  have hz₂ : IsZip h₂ z TI TO .ellipsis := hs₂ _ _ D.i1z.symm hz₁
  have hez : e ≠ z := fun x => by subst x; rw [hz₂] at hoe; cases hoe; simp at hce
  refine wpAny_setField_rec hz₂ (by simp) fun h₃ _ hs₃ => hE h₃ e (fun c o c1 c3 x => hs₃.extBut _ _ c1 (hs₂ _ _ c3 (hs₁.extBut _ _ c1 x))) ⟨oe, hs₃.extBut _ _ hez hoe, hce⟩

theorem next_zipS_item {z TI TO i1 i2 : Addr} {k1 k2 : Nat} {x y : Str} {tx ty : Tok} {c d : Nat} {a b : Value} {Q : Option Value → Shared → Prop} (D : ZA z TI TO i1 i2)
    (hz : IsZip s.heap z TI TO .none) (hTI : IsPair s.heap TI (.ref i1) (.ref i2)) (hTO : IsPair s.heap TO a b)
    (h1 : AIt s.heap i1 x tx k1) (h2 : AIt s.heap i2 y ty k2) (hx : x.cps[k1]? = some c) (hy : y.cps[k2]? = some d)
    (hQ : ∀ h' t1 t2 tk, IsZip h' z TI TO (rawInt s.heap.objs.size) → IsPair h' TO (.str ⟨#[c]⟩ t1) (.str ⟨#[d]⟩ t2) → AIt h' i1 x tx (k1 + 1) → AIt h' i2 y ty (k2 + 1) →
      IsPair h' s.heap.objs.size (.str ⟨#[c]⟩ t1) (.str ⟨#[d]⟩ t2) → h'.objs.size = s.heap.objs.size + 1 →
      (∀ e o, e ≠ z → e ≠ TO → e ≠ i1 → e ≠ i2 → s.heap.get? e = some o → h'.get? e = some o) → Q (some (.ref s.heap.objs.size)) { s with heap := h', toks := tk }) :
    wpAny (model prog w) A (pyNext (.ref z)) Q E s := by
  have hT : s.TypeIs (.ref z) "zip" := ⟨_, hz, rfl⟩
  unfold pyNext
  exact wpAny_bind (wpAny_attempt (wpAny_callSpecial?_slot (name := Str.ofString "__next__") hT F.slot_zip_next
    (wpAny_call_entry F.slot_zip_next hT F.entry_zip_next
      (zipS_item D hz hTI hTO h1 h2 hx hy fun h' t1 t2 tk a1 a2 a3 a4 a5 a6 a7 => wpAny_pure (hQ h' t1 t2 tk a1 a2 a3 a4 a5 a6 a7)) (F.args_zip_next_1 _))))

theorem next_zipS_end {z TI TO i1 i2 : Addr} {k1 : Nat} {x : Str} {tx : Tok} {a b : Value} {Q : Option Value → Shared → Prop} (hh : A.handled = none) (D : ZA z TI TO i1 i2)
    (hz : IsZip s.heap z TI TO .none) (hTI : IsPair s.heap TI (.ref i1) (.ref i2)) (hTO : IsPair s.heap TO a b)
    (h1 : AIt s.heap i1 x tx k1) (hx : x.cps[k1]? = none)
    (hQ : ∀ h', (∀ c o, c ≠ z → c ≠ i1 → s.heap.get? c = some o → h'.get? c = some o) → Q none { s with heap := h' }) : wpAny (model prog w) A (pyNext (.ref z)) Q E s := by
  have hT : s.TypeIs (.ref z) "zip" := ⟨_, hz, rfl⟩
  unfold pyNext
  refine wpAny_bind (wpAny_attempt (wpAny_callSpecial?_slot (name := Str.ofString "__next__") hT F.slot_zip_next
    (wpAny_call_entry F.slot_zip_next hT F.entry_zip_next (zipS_end hh D hz hTI hTO h1 hx fun h' e hk he => ?_) (F.args_zip_next_1 _))))
  obtain ⟨o, ho, hc⟩ := he
  refine wpAny_bind (wpAny_isInstance (T := "StopIteration") (b := true) ⟨o, ho, hc⟩ isSubtype_stop ?_)
  exact wpAny_pure (hQ _ hk)
end

abbrev zsH1 (h : Heap) (x : Str) (t : Tok) : Heap := h.push { cls := .type "str_ascii_iterator", data := .fields #[.str x t, .int 0 0] }
abbrev zsH2 (h : Heap) (x y : Str) (t u : Tok) : Heap := (zsH1 h x t).push { cls := .type "str_ascii_iterator", data := .fields #[.str y u, .int 0 0] }
abbrev zsH3 (h : Heap) (x y : Str) (t u : Tok) : Heap := (zsH2 h x y t u).push { cls := .type "tuple", data := .seq #[.ref h.objs.size, .ref (zsH1 h x t).objs.size] }
abbrev zsH4 (h : Heap) (x y : Str) (t u : Tok) : Heap := (zsH3 h x y t u).push { cls := .type "tuple", data := .seq #[.none, .none] }
abbrev zsH5 (h : Heap) (x y : Str) (t u : Tok) : Heap := (zsH4 h x y t u).push { cls := .type "zip", data := .fields #[.none, .bool false, .bool false, .ref (zsH2 h x y t u).objs.size, .ref (zsH3 h x y t u).objs.size] }

theorem meets_zipS_new (x y : Str) (t u : Tok) (hx : x.cps.all (· < 128) = true) (hy : y.cps.all (· < 128) = true) :
    Meets (Builtin.«zip.__new__» ⟨[.type "zip", .str x t, .str y u], []⟩) (fun _ R s =>
      R (.ok (.ret (.ref (zsH4 s.heap x y t u).objs.size))) { s with heap := zsH5 s.heap x y t u }) :=
  .of_wp fun prog w A R s h => by
    obtain ⟨hp, g, d, tk, os⟩ := s
    have hsub := sub_zip
    wp_walk using wpAny_pyIter_ascii hx, wpAny_pyIter_ascii hy
    exact ⟨_, rfl, h⟩

section
variable {prog : Program} {w : World} {A : Around} {E : Value → Shared → Prop} {s : Shared}

theorem call_zipS {x y : Str} {t u : Tok} {Q : Value → Shared → Prop} (hx : x.cps.all (· < 128) = true) (hy : y.cps.all (· < 128) = true)
    (h : ∀ h', IsZip h' (s.heap.objs.size + 4) (s.heap.objs.size + 2) (s.heap.objs.size + 3) .none → IsPair h' (s.heap.objs.size + 2) (.ref s.heap.objs.size) (.ref (s.heap.objs.size + 1)) →
      IsPair h' (s.heap.objs.size + 3) .none .none → AIt h' s.heap.objs.size x t 0 → AIt h' (s.heap.objs.size + 1) y u 0 → h'.objs.size = s.heap.objs.size + 5 →
      (∀ c o, s.heap.get? c = some o → h'.get? c = some o) → Q (.ref (s.heap.objs.size + 4)) { s with heap := h' }) :
    wpAny (model prog w) A (call (.type "zip") [.str x t, .str y u]) Q E s := by
  refine callType_new F.called_zip (by decide) (F.typeCall_zip_2 _ _) (F.newCall_zip_2 _ _) (fun obj => F.args_object_init_3 obj _ _) F.entry_zip_new
    (meets_zipS_new x y t u hx hy) ?_
  have z1 : (zsH1 s.heap x t).objs.size = s.heap.objs.size + 1 := Heap.size_push ..
  have z2 : (zsH2 s.heap x y t u).objs.size = s.heap.objs.size + 2 := by rw [Heap.size_push, z1]
  have z3 : (zsH3 s.heap x y t u).objs.size = s.heap.objs.size + 3 := by rw [Heap.size_push, z2]
  have z4 : (zsH4 s.heap x y t u).objs.size = s.heap.objs.size + 4 := by rw [Heap.size_push, z3]
  have z5 : (zsH5 s.heap x y t u).objs.size = s.heap.objs.size + 5 := by rw [Heap.size_push, z4]
  have g5 : (zsH5 s.heap x y t u).get? (zsH4 s.heap x y t u).objs.size = some _ := Heap.get?_push_size _ rfl
  have g4 : (zsH5 s.heap x y t u).get? (zsH3 s.heap x y t u).objs.size = some _ := Heap.get?_push_of_some _ (Heap.get?_push_size _ rfl)
  have g3 : (zsH5 s.heap x y t u).get? (zsH2 s.heap x y t u).objs.size = some _ := Heap.get?_push_of_some _ (Heap.get?_push_of_some _ (Heap.get?_push_size _ rfl))
  have g2 : (zsH5 s.heap x y t u).get? (zsH1 s.heap x t).objs.size = some _ := Heap.get?_push_of_some _ (Heap.get?_push_of_some _ (Heap.get?_push_of_some _ (Heap.get?_push_size _ rfl)))
  have g1 : (zsH5 s.heap x y t u).get? s.heap.objs.size = some _ := Heap.get?_push_of_some _ (Heap.get?_push_of_some _ (Heap.get?_push_of_some _ (Heap.get?_push_of_some _ (Heap.get?_push_size _ rfl))))
  show _ ∧ _
  rw [z2, z3, z4] at g5
  rw [z1, z2] at g3
  rw [z3] at g4
  rw [z1] at g2
  rw [z4]
  exact ⟨⟨_, g5, rfl⟩, h _ g5 g3 g4 ⟨_, g1, rfl, rfl⟩ ⟨_, g2, rfl, rfl⟩ z5 fun c o q =>
    Heap.get?_push_of_some _ (Heap.get?_push_of_some _ (Heap.get?_push_of_some _ (Heap.get?_push_of_some _ (Heap.get?_push_of_some _ q))))⟩
end
end Mine
end

section
open PySem PySem.W PyProof.Rows
namespace Mine

/-! ### an exception that passes a comprehension in the frame of a def -/
structure HeldB (base g G : Heap) (outer : List Env) (env : Env) (L e : Addr) (cls a0 : Value) (news : List (Addr × Obj)) (B h : Heap) : Prop where
  st : base.StaysIn B
  sg : ∀ b o, g.get? b = some o → b ∉ outer.filterMap (·.frame) → B.get? b = some o
  nw : ∀ q ∈ news, B.get? q.1 = some q.2 ∧ g.get? q.1 = none ∧ base.get? q.1 = none
  of : ∀ b o, B.get? b = some o → G.get? b = some o
  fr : ∀ b ∈ (env :: outer).filterMap (·.frame), ∃ o, G.get? b = some o
  gk : ∀ b o, g.get? b = some o → G.get? b = some o
  held : Heap.HeldW B (env :: outer) e cls a0 L h
  up : g.UpToSlots h

theorem funFrames_sameBut {h h' base : Heap} {C : Addr} (hs : Heap.SameBut C h h') : ∀ {l : List Env}, h.FunFrames base l → C ∉ l.filterMap (·.frame) → h'.FunFrames base l
  | [], _, _ => trivial
  | env :: rest, x, hC => by
    obtain ⟨hk, ⟨L, o, hf, hn, ho, hd⟩, hr⟩ := x
    rw [List.filterMap_cons, hf] at hC
    have hLC : L ≠ C := fun q => hC (q ▸ List.mem_cons_self)
    exact ⟨hk, ⟨L, o, hf, hn, (hs.2 L hLC).trans ho, hd⟩, funFrames_sameBut hs hr fun hm => hC (List.mem_cons_of_mem _ hm)⟩

section
variable {M : Model} {A : Around} {E : Value → Shared → Prop} {s' : Shared} {base g G : Heap} {outer : List Env} {L a e C : Addr} {m m' : Str → Option Value} {name : Str} {scope cscope : Scope} {cd cls a0 : Value} {news : List (Addr × Obj)} {B h₁ : Heap}

theorem noted {X : String} {Q : Unit → Shared → Prop} (K : Below A base outer g) (hx : Heap.NewExc G s'.heap e X) (F : Fr g L G m) (N : News g L G news) (hk : scope.kind = .function)
    (hQ : ∀ h' B tp, HeldB base g G outer (envOf name scope L a cd) L e (.type X) tp news B h' → s'.heap.UpToSlots h' → Q () { s' with heap := h' }) :
    wpAny M (A.deeper (envOf name scope L a cd)) (noteFrame (.ref e) (compEnv cscope C (envOf name scope L a cd))) Q E s' := by
  have K' := K.push (name := name) (a := a) (cd := cd) F hk
  have hin : ∀ env ∈ (envOf name scope L a cd :: outer), ∀ b, env.frame = some b → b ∈ (envOf name scope L a cd :: outer).filterMap (·.frame) := fun env he b hb => List.mem_filterMap.mpr ⟨env, he, hb⟩
  have st : base.StaysIn (hideAll G ((envOf name scope L a cd :: outer).filterMap (·.frame))) := fun b o q => hideAll_get _ (K'.stays b o q) fun hm => by
    rw [(K'.frames.mem hm).1] at q; cases q
  have sg : ∀ b o, g.get? b = some o → b ∉ outer.filterMap (·.frame) → (hideAll G ((envOf name scope L a cd :: outer).filterMap (·.frame))).get? b = some o := fun b o q nm => hideAll_get _ (F.keep b o q) fun hm => by
    rcases kts_mem hm with z | z
    · rw [z, kts_self F] at q
      cases q
    · exact nm z
  have hl : ∀ q ∈ news, (hideAll G ((envOf name scope L a cd :: outer).filterMap (·.frame))).get? q.1 = some q.2 ∧ g.get? q.1 = none ∧ base.get? q.1 = none := fun q hq => by
    refine ⟨hideAll_get _ (N q hq).1 fun hm => ?_, (N q hq).2.2, fresh_of_stays K.stays (N q hq).2.2⟩
    obtain ⟨env, he, hf⟩ := List.mem_filterMap.mp hm
    rcases List.mem_cons.mp he with rfl | he
    · exact (N q hq).2.1 (Option.some.inj hf).symm
    · obtain ⟨o, ho, _⟩ := (K.frames.mem (List.mem_filterMap.mpr ⟨env, he, hf⟩)).2
      rw [(N q hq).2.2] at ho; cases ho
  obtain ⟨ob, tp, he, hcls, hd⟩ := hx.there
  have hen : (hideAll G ((envOf name scope L a cd :: outer).filterMap (·.frame))).get? e = none := by
    cases q : (hideAll G ((envOf name scope L a cd :: outer).filterMap (·.frame))).get? e with
    | none => rfl
    | some o => have := of_hideAll _ q; rw [hx.new] at this; cases this
  have hfr : (A.deeper (envOf name scope L a cd)).frames = some (envOf name scope L a cd :: outer) := K'.stack
  have heq : noteFrame (.ref e) (compEnv cscope C (envOf name scope L a cd)) = noteFrame (.ref e) (envOf name scope L a cd) := rfl
  rw [heq]
  unfold noteFrame
  show wpAny M _ (field (.ref e) 1 >>= _) Q E s'
  refine wpAny_bind (wpAny_field he hd (x := .none) rfl ?_)
  rw [if_neg (by decide)]
  refine wpAny_entryW (a0 := tp) hfr ((funFrames_hide K'.frames hin).of_keeps fun b o hb _ => ⟨o, hx.keeps b o hb, rfl⟩) rfl he (fun b o hb => hx.keeps b o (of_hideAll _ hb)) hen hd (by simp) rfl fun h' hL => ?_
  obtain ⟨k1, k2, k3, k4⟩ := hL
  exact hQ h' _ tp ⟨st, sg, hl, fun b o q => of_hideAll _ q, fun b hb => let ⟨_, o, ho, _⟩ := K'.frames.mem hb; ⟨o, ho⟩, F.keep, ⟨k1, hen, k2, by rw [← hcls]; exact k3⟩,
    ((Heap.UpToSlots.of_keeps F.keep).trans (Heap.UpToSlots.of_keeps hx.keeps)).trans k4⟩ k4

theorem HeldB.but {env : Env} (R : HeldB base g G outer env L e cls a0 news B h₁) {h₂ : Heap} (hs : Heap.SameBut C h₁ h₂) (hn : h₁.Ns C m') (hG : G.get? C = none) :
    HeldB base g G outer env L e cls a0 news B h₂ := by
  obtain ⟨oC, esC, epC, hoC, hdC, _⟩ := hn
  have hCf : C ∉ (env :: outer).filterMap (·.frame) := fun hm => by obtain ⟨o, ho⟩ := R.fr C hm; rw [hG] at ho; cases ho
  obtain ⟨k1, k2, k3, oe, vs, T, oT, ts, he, hc, hd, h1, hnT, hTe, hT, hdT, h3⟩ := R.held
  have heC : e ≠ C := fun q => by rw [q, hoC] at he; injection he with he; rw [← he, hdC] at hd; cases hd
  have hTC : T ≠ C := fun q => by rw [q, hoC] at hT; injection hT with hT; rw [← hT, hdC] at hdT; cases hdT
  refine ⟨R.st, R.sg, R.nw, R.of, R.fr, R.gk, ⟨fun b o hb => (hs.2 b fun q => ?_).trans (k1 b o hb), k2, funFrames_sameBut hs k3 hCf, oe, vs, T, oT, ts, (hs.2 e heC).trans he, hc, hd, h1, hnT, hTe, (hs.2 T hTC).trans hT, hdT, h3⟩, fun b o hb hf => ?_⟩
  · have := R.of b o hb
    rw [q, hG] at this; cases this
  · obtain ⟨sl, h9⟩ := R.up b o hb hf
    exact ⟨sl, (hs.2 b fun q => by have := R.gk b o hb; rw [q, hG] at this; cases this).trans h9⟩

theorem HeldB.flown {env : Env} {Q : Unit → Shared → Prop} (R : HeldB base g G outer env L e cls a0 news B s'.heap) (h : ∀ h', HeldB base g G outer env L e cls a0 news B h' → Q () { s' with heap := h' }) :
    wpAny M A (setFlight (.ref e) (some L)) Q E s' := by
  obtain ⟨k1, k2, k3, oe, vs, T, oT, ts, he, hcls, hd, h1, hnT, hTe, hT, hdT, h3⟩ := R.held
  have hsz3 : 3 < ts.size := (Array.getElem?_eq_some_iff.mp h3).1
  have other : ∀ b, b ≠ T → (s'.heap.update T (Obj.mapFields (·.setIfInBounds 3 ((some L).elim Value.none fun f => rawInt f)))).get? b = s'.heap.get? b :=
    fun b hb => Heap.get?_update_other _ _ (Ne.symm hb)
  have noRecord : ∀ b o, s'.heap.get? b = some o → (∀ vs, o.data ≠ .fields vs) → b ≠ T := fun b o hb hnf q => by
    rw [q, hT] at hb; injection hb with hb; subst hb; exact hnf ts hdT
  unfold setFlight
  refine wpAny_bind (wpAny_field he hd h1 ?_)
  rw [if_pos (show (Value.ref T != Value.none) = true from by simp)]
  refine wpAny_setField hT hdT hsz3 (h _ ⟨R.st, R.sg, R.nw, R.of, R.fr, R.gk, ⟨fun b o hbo => (other b fun q => by rw [q, hnT] at hbo; cases hbo).trans (k1 b o hbo), k2,
    k3.of_keeps fun b o hb hnf => ⟨o, (other b (noRecord b o hb hnf)).trans hb, rfl⟩, ?_⟩, fun b o hb hnf => ?_⟩)
  · exact ⟨oe, vs, T, _, _, (other e (Ne.symm hTe)).trans he, hcls, hd, h1, hnT, hTe, Heap.get?_update_self _ hT (Obj.isFreed_of_fields (Obj.data_mapFields hdT _)), Obj.data_mapFields hdT _, by simp [hsz3]⟩
  · obtain ⟨sl, h9⟩ := R.up b o hb hnf
    exact ⟨sl, (other b (noRecord b _ h9 hnf)).trans h9⟩

theorem HeldB.passes {what : String} {Q : Value → Shared → Prop} (R : HeldB base g G outer (envOf name scope L a cd) L e cls a0 news B s'.heap)
    (h : ∀ h', HeldB base g G outer (envOf name scope L a cd) L e cls a0 news B h' → E (.ref e) { s' with heap := h' }) :
    wpAny M A (PySem.passOn what (.ref e) (compEnv cscope C (envOf name scope L a cd)) : Sem Value) Q E s' := by
  obtain ⟨oe, vs, T, oT, ts, he, hcls, hd, h1, hnT, hTe, hT, hdT, h3⟩ := id R.held.2.2.2
  unfold PySem.passOn
  refine wpAny_bind (wpAny_field he hd h1 ?_)
  rw [if_neg (show ¬ ((Value.ref T == Value.none) = true) from by simp)]
  exact wpAny_bind (R.flown fun h' R' => wpAny_throw (h h' R'))

theorem HeldB.leaves {Q : Unit → Shared → Prop} (R : HeldB base g G outer (envOf name scope L a cd) L e cls a0 news B s'.heap)
    (hQ : ∀ h', RaisedSN base g outer e cls news h' → g.UpToSlots h' → Q () { s' with heap := h' }) :
    wpAny M (A.deeper (envOf name scope L a cd)) (leaving (envOf name scope L a cd) (.ref e)) Q E s' := by
  unfold leaving
  refine wpAny_bind (wpAny_noteFrame_againW rfl R.held.2.2.2 ?_)
  refine wpAny_landsW R.held fun h' hfl hs => ?_
  obtain ⟨k1, k2, ⟨_, _, k3⟩, k4⟩ := hfl
  exact hQ h' ⟨B, a0, R.st, R.sg, R.nw, ⟨k1, k2, k3, k4⟩⟩ (R.up.trans hs)
end
end Mine
end

section
open PySem PySem.W PyProof.Rows PySem.Calls
namespace Mine

/-! ### digits -/
abbrev hxS : Str := Str.ofString "0123456789abcdef"
def hv (c : Nat) : Option Nat := if 48 ≤ c ∧ c ≤ 57 then some (c - 48) else if 97 ≤ c ∧ c ≤ 102 then some (c - 87) else none
def occOf (o : Option Nat) : List Nat := match o with | some v => [v] | none => []
theorem occ_all : (List.range 128).all (fun c => Builtin.Str.occurrences hxS ⟨#[c]⟩ 0 hxS.length 1 == occOf (hv c)) = true := by decide +kernel
theorem occ_hx {c : Nat} (h : c < 128) : Builtin.Str.occurrences hxS ⟨#[c]⟩ 0 hxS.length 1 = occOf (hv c) := by
  have := List.all_eq_true.mp occ_all c (List.mem_range.mpr h)
  exact eq_of_beq this
theorem hv_lt {c v : Nat} (h : hv c = some v) : v < 16 ∧ c < 128 := by
  unfold hv at h
  split at h
  · cases h; omega
  · split at h
    · cases h; omega
    · cases h

section
variable {prog : Program} {w : World} {A : Around} {E : Value → Shared → Prop} {s : Shared} {env : Env} {m : Str → Option Value} {Q : Value → Shared → Prop}

theorem idx_good {nm : Str} {c v : Nat} {t : Tok} {k2 : Nat} {p2 p3 p4 p5 : Pos} {pl : Sem Bool} (he : eval (.Call (.Attribute (.Constant (.str hxS) k2 p2) (Str.ofString "index") p3) [.Name nm p4] [] p5) env = (do
      let ov ← eval (.Constant (.str hxS) k2 p2) env
      standAt p3.atName
      let (f, first) ← holding [ov] (getMethod ov (Str.ofString "index") pl)
      callWith p5 f first (backTo p5 (starEach [.Name nm p4] env)) []))
    (hk : env.scope.kind = .function) (hl : env.kindOf nm = some .local) (hd : (nm == ("__debug__" : Str)) = false) (hn : s.heap.Ns env.locals m)
    (hm : m nm = some (.str ⟨#[c]⟩ t)) (hc : hv c = some v) (h : ∀ t tk, Q (.int (v : Int) t) { s with toks := tk }) :
    wpAny (model prog w) A (eval (.Call (.Attribute (.Constant (.str hxS) k2 p2) (Str.ofString "index") p3) [.Name nm p4] [] p5) env) Q E s := by
  refine MethodCall_ (pl := pl) ?_ he
  refine Constant_str ?_
  refine GM.index ?_
  refine callWith_method1 ?_
  refine spliced_more ?_
  refine wpAny_Name (hd := hd) (wpAny_loadName_local hk hl (by exact hn) hm ?_)
  refine spliced_nil ?_
  refine SC.index (i := v) (rest := []) ?_ (h _ _)
  rw [occ_hx (hv_lt hc).2, hc]; rfl

theorem idx_bad {nm : Str} {c : Nat} {t : Tok} {k2 : Nat} {p2 p3 p4 p5 : Pos} {pl : Sem Bool} (hh : A.handled = none) (he : eval (.Call (.Attribute (.Constant (.str hxS) k2 p2) (Str.ofString "index") p3) [.Name nm p4] [] p5) env = (do
      let ov ← eval (.Constant (.str hxS) k2 p2) env
      standAt p3.atName
      let (f, first) ← holding [ov] (getMethod ov (Str.ofString "index") pl)
      callWith p5 f first (backTo p5 (starEach [.Name nm p4] env)) []))
    (hk : env.scope.kind = .function) (hl : env.kindOf nm = some .local) (hd : (nm == ("__debug__" : Str)) = false) (hn : s.heap.Ns env.locals m)
    (hm : m nm = some (.str ⟨#[c]⟩ t)) (hc : hv c = none) (h128 : c < 128) (h : ∀ h' tk e, Heap.NewExc s.heap h' e "ValueError" → E (.ref e) { s with heap := h', toks := tk }) :
    wpAny (model prog w) A (eval (.Call (.Attribute (.Constant (.str hxS) k2 p2) (Str.ofString "index") p3) [.Name nm p4] [] p5) env) Q E s := by
  refine MethodCall_ (pl := pl) ?_ he
  refine Constant_str ?_
  refine GM.index ?_
  refine callWith_method1 ?_
  refine spliced_more ?_
  refine wpAny_Name (hd := hd) (wpAny_loadName_local hk hl (by exact hn) hm ?_)
  refine spliced_nil ?_
  refine index_or hh (fun _ _ h' tk e hx => h h' tk e hx) fun _ hne => ?_
  rw [occ_hx h128, hc] at hne
  cases hne

/-- the element of unhexlify's comprehension -/
abbrev unElt : Expr :=
  .BinOp (.BinOp (.Constant (.int 16) 0 ⟨6, 18, 6, 20⟩) .Mult (.Call (.Attribute (.Constant (.str hxS) 0 ⟨6, 23, 6, 41⟩) (Str.ofString "index") ⟨6, 23, 6, 47⟩) [.Name (Str.ofString "a") ⟨6, 48, 6, 49⟩] [] ⟨6, 23, 6, 50⟩) ⟨6, 18, 6, 50⟩) .Add
    (.Call (.Attribute (.Constant (.str hxS) 0 ⟨6, 53, 6, 71⟩) (Str.ofString "index") ⟨6, 53, 6, 77⟩) [.Name (Str.ofString "b") ⟨6, 78, 6, 79⟩] [] ⟨6, 53, 6, 80⟩) ⟨6, 18, 6, 80⟩

theorem mul16 {v : Nat} (_ : v < 16) : IntMulOk 16 (v : Int) := IntMulOk.of_left (by decide)

theorem elt_good {c d u v : Nat} {t1 t2 : Tok} (hk : env.scope.kind = .function)
    (hla : env.kindOf (Str.ofString "a") = some .local) (hlb : env.kindOf (Str.ofString "b") = some .local) (hn : s.heap.Ns env.locals m)
    (hma : m (Str.ofString "a") = some (.str ⟨#[c]⟩ t1)) (hmb : m (Str.ofString "b") = some (.str ⟨#[d]⟩ t2)) (hc : hv c = some u) (hd : hv d = some v)
    (h : ∀ t tk, Q (.int (16 * (u : Int) + (v : Int)) t) { s with toks := tk }) :
    wpAny (model prog w) A (eval unElt env) Q E s := by
  refine wpAny_BinOp ?_
  refine wpAny_BinOp ?_
  refine wpAny_Constant_int ?_
  refine idx_good (he := by rfl) hk hla (by decide) (by exact hn) hma hc fun t tk => ?_
  refine PyProof.Rows.mul_int ?_ (mul16 (hv_lt hc).1)
  refine idx_good (he := by rfl) hk hlb (by decide) (by exact hn) hmb hd fun t tk => ?_
  exact PyProof.Rows.add_int (h _ _)

theorem elt_bad {c d : Nat} {t1 t2 : Tok} (hh : A.handled = none) (hk : env.scope.kind = .function)
    (hla : env.kindOf (Str.ofString "a") = some .local) (hlb : env.kindOf (Str.ofString "b") = some .local) (hn : s.heap.Ns env.locals m)
    (hma : m (Str.ofString "a") = some (.str ⟨#[c]⟩ t1)) (hmb : m (Str.ofString "b") = some (.str ⟨#[d]⟩ t2)) (hc : c < 128) (hd : d < 128) (hbad : hv c = none ∨ hv d = none)
    (h : ∀ h' tk e, Heap.NewExc s.heap h' e "ValueError" → E (.ref e) { s with heap := h', toks := tk }) :
    wpAny (model prog w) A (eval unElt env) Q E s := by
  refine wpAny_BinOp ?_
  refine wpAny_BinOp ?_
  refine wpAny_Constant_int ?_
  cases hu : hv c with
  | none => exact idx_bad (he := by rfl) hh hk hla (by decide) (by exact hn) hma hu hc h
  | some u =>
    have hv' : hv d = none := by rcases hbad with q | q; rw [hu] at q; cases q; exact q
    refine idx_good (he := by rfl) hk hla (by decide) (by exact hn) hma hu fun t tk => ?_
    refine PyProof.Rows.mul_int ?_ (mul16 (hv_lt hu).1)
    exact idx_bad (he := by rfl) hh hk hlb (by decide) (by exact hn) hmb hv' hd h
end
end Mine
end

section
open PySem PySem.W PyProof.Rows PySem.Calls
namespace Mine

/-- the scope of unhexlify's comprehension -/
abbrev unScope : Scope := { kind := .function, names := [(Str.ofString ".0", .local), (Str.ofString "a", .local), (Str.ofString "b", .local)], isGenerator := false, isCoroutine := false, more := [] }
abbrev unComp (iterE : Expr) : Expr :=
  .ListComp unElt [⟨.Tuple [.Name (Str.ofString "a") ⟨6, 85, 6, 86⟩, .Name (Str.ofString "b") ⟨6, 88, 6, 89⟩] 0 ⟨6, 85, 6, 89⟩, iterE, [], 0⟩] unScope ⟨6, 17, 6, 120⟩

structure ZipAt (h₀ h : Heap) (z TI TO i1 i2 : Addr) (x y : Str) (tx ty : Tok) (i : Nat) : Prop where
  D : ZA z TI TO i1 i2
  hz : IsZip h z TI TO .none
  hTI : IsPair h TI (.ref i1) (.ref i2)
  hTO : ∃ a b, IsPair h TO a b
  h1 : AIt h i1 x tx i
  h2 : AIt h i2 y ty i
  nz : h₀.get? z = none
  nTO : h₀.get? TO = none
  n1 : h₀.get? i1 = none
  n2 : h₀.get? i2 = none
  keep : ∀ b o, h₀.get? b = some o → h.get? b = some o

theorem ZipAt.to {h₀ h h' : Heap} {z TI TO i1 i2 : Addr} {x y : Str} {tx ty : Tok} {i : Nat} (Z : ZipAt h₀ h z TI TO i1 i2 x y tx ty i)
    (hk : ∀ b o, h.get? b = some o → (b = z ∨ b = TI ∨ b = TO ∨ b = i1 ∨ b = i2 ∨ ∃ o, h₀.get? b = some o) → h'.get? b = some o) : ZipAt h₀ h' z TI TO i1 i2 x y tx ty i where
  D := Z.D
  hz := hk _ _ Z.hz (.inl rfl)
  hTI := hk _ _ Z.hTI (.inr (.inl rfl))
  hTO := let ⟨a, b, e⟩ := Z.hTO; ⟨a, b, hk _ _ e (.inr (.inr (.inl rfl)))⟩
  h1 := Z.h1.at fun _ e => hk _ _ e (.inr (.inr (.inr (.inl rfl))))
  h2 := Z.h2.at fun _ e => hk _ _ e (.inr (.inr (.inr (.inr (.inl rfl)))))
  nz := Z.nz
  nTO := Z.nTO
  n1 := Z.n1
  n2 := Z.n2
  keep := fun b o e => hk b o (Z.keep b o e) (.inr (.inr (.inr (.inr (.inr ⟨o, e⟩)))))

theorem ZipAt.ne {h₀ h : Heap} {z TI TO i1 i2 : Addr} {x y : Str} {tx ty : Tok} {i : Nat} (Z : ZipAt h₀ h z TI TO i1 i2 x y tx ty i) {b c : Addr} (hc : h.objs.size ≤ c)
    (hb : b = z ∨ b = TI ∨ b = TO ∨ b = i1 ∨ b = i2 ∨ ∃ o, h₀.get? b = some o) : b ≠ c := by
  have lt : b < h.objs.size := by
    rcases hb with rfl | rfl | rfl | rfl | rfl | ⟨o, e⟩
    · exact Heap.lt_size Z.hz
    · exact Heap.lt_size Z.hTI
    · obtain ⟨_, _, e⟩ := Z.hTO; exact Heap.lt_size e
    · exact Z.h1.lt
    · exact Z.h2.lt
    · exact Heap.lt_size (Z.keep b o e)
  exact Nat.ne_of_lt (Nat.lt_of_lt_of_le lt hc)

theorem ints_snoc {vs : List Value} {ns : List Int} {i : Nat} {n : Int} {t : Tok} (h : IntsAre vs (ns.take i)) (e : ns[i]? = some n) : IntsAre (vs ++ [.int n t]) (ns.take (i + 1)) := by
  rw [List.take_add_one, e]
  exact h.append (.cons _ _ .nil)

section
variable {prog : Program} {w : World} {A : Around} {E : Value → Shared → Prop} {s : Shared} {base g : Heap} {outer : List Env} {L a : Addr} {mF : Str → Option Value} {name : Str} {scope : Scope} {cd : Value} {news : List (Addr × Obj)}

theorem comp_un {iterE : Expr} {x y : Str} {k : Nat} {ns : List Int} {Q : Value → Shared → Prop} (K : Below A base outer g) (F : Fr g L s.heap mF) (N : News g L s.heap news) (hk : scope.kind = .function) (hh : A.handled = none)
    (hs : ∀ v, foldedSetIterable iterE (envOf name scope L a cd) v = pure v)
    (hit : wpAny (model prog w) (A.deeper (envOf name scope L a cd)) (eval iterE (envOf name scope L a cd)) (fun xv s₁ => ∃ z TI TO i1 i2 h tk tx ty, xv = .ref z ∧ ZipAt s.heap h z TI TO i1 i2 x y tx ty 0 ∧ s₁ = { s with heap := h, toks := tk }) E s)
    (hsz : k ≤ sizeLine) (hlen : x.cps.size = y.cps.size) (hkx : k ≤ x.cps.size) (hns : ns.length = k)
    (hgood : ∀ i, i < k → ∃ c d u v, x.cps[i]? = some c ∧ y.cps[i]? = some d ∧ hv c = some u ∧ hv d = some v ∧ ns[i]? = some (16 * (u : Int) + (v : Int)))
    (hbad : k < x.cps.size → ∃ c d, x.cps[k]? = some c ∧ y.cps[k]? = some d ∧ c < 128 ∧ d < 128 ∧ (hv c = none ∨ hv d = none))
    (hQ : k = x.cps.size → ∀ D h' tk vs, h'.IsList D vs.toArray → IntsAre vs ns → (∀ b o, s.heap.get? b = some o → h'.get? b = some o) → Q (.ref D) { s with heap := h', toks := tk })
    (hE : k < x.cps.size → ∀ h' tk e tp B, HeldB base g s.heap outer (envOf name scope L a cd) L e (.type "ValueError") tp news B h' → E (.ref e) { s with heap := h', toks := tk }) :
    wpAny (model prog w) (A.deeper (envOf name scope L a cd)) (eval (unComp iterE) (envOf name scope L a cd)) Q E s := by
  refine wpAny_ListComp (by decide) rfl (by decide) (wpAny_mono hit (fun xv s₁ h₁ => ?_) fun _ _ e => e) hs
  obtain ⟨z, TI, TO, i1, i2, h, tk, tx, ty, rfl, Z, rfl⟩ := h₁
  refine wpAny_pyIter_zip Z.hz (wpAny_newObj_type (hd := by size_fits) (wpAny_newFunctionEnv (by decide) (by intro y hy; simp at hy) (fun h₁ hns₁ hsb₁ => ?_) rfl))
  dsimp only at hns₁ hsb₁ ⊢
  generalize hH2 : h.push { cls := .type "list", dict := none, data := .seq ([] : List Value).toArray } = H2 at hns₁ hsb₁ ⊢
  have hC : H2.objs.size = h.objs.size + 1 := by rw [← hH2, Heap.size_push]
  have hDC : h.objs.size ≠ H2.objs.size := by rw [hC]; exact Nat.ne_of_lt (Nat.lt_succ_self _)
  have hGC : s.heap.get? H2.objs.size = none := by
    cases e : s.heap.get? H2.objs.size with
    | none => rfl
    | some o => exact absurd rfl (Z.ne (c := H2.objs.size) (by rw [hC]; exact Nat.le_succ _) (.inr (.inr (.inr (.inr (.inr ⟨o, e⟩))))))
  have Z₁ : ZipAt s.heap h₁ z TI TO i1 i2 x y tx ty 0 := Z.to fun b o e hb => hsb₁.extBut b o (Z.ne (by rw [hC]; exact Nat.le_succ _) hb) (Heap.get?_push_of_some _ (hH2 ▸ Heap.get?_push_of_some _ e))
  have hacc : h₁.IsList h.objs.size ([] : List Value).toArray := ⟨_, hsb₁.extBut _ _ hDC (Heap.get?_push_of_some _ (hH2 ▸ Heap.get?_push_size _ rfl)), rfl, _, rfl⟩
  have loop : ∀ s₃ : Shared, s₃ = { s with heap := h₁, toks := tk + ([] : List (Str × Value)).length } →
      codeAny (model prog w) (A.deeper (envOf name scope L a cd)) (.compLoop (unComp iterE) 0 (.ref z) (.ref h.objs.size) (compEnv unScope H2.objs.size (envOf name scope L a cd)))
        (fun r s' => ∃ m, s'.heap.Ns H2.objs.size m ∧ ∀ h', Heap.SameBut H2.objs.size s'.heap h' →
          match r with | .ok _ => Q (.ref h.objs.size) { s' with heap := h' } | .error x => wpAny (model prog w) (A.deeper (envOf name scope L a cd)) (PySem.passOn "comprehension.variables-let-go" x (compEnv unScope H2.objs.size (envOf name scope L a cd))) Q E { s' with heap := h' }) s₃ := by
    rintro s₃ rfl
    refine LCp.codeAny_compLoop_pair
      (fun n s' => ∃ h' tk i vs m', s' = { s with heap := h', toks := tk } ∧ i ≤ k ∧ n = k + 1 - i ∧ ZipAt s.heap h' z TI TO i1 i2 x y tx ty i ∧ h'.IsList h.objs.size vs.toArray ∧ IntsAre vs (ns.take i) ∧ h'.Ns H2.objs.size m')
      ?_ (k + 1) ⟨h₁, _, 0, [], _, rfl, Nat.zero_le _, rfl, Z₁, hacc, .nil, hns₁⟩
    rintro n s' ⟨h', tk', i, vs, m', rfl, hi, rfl, Z', hl', hI', hn'⟩
    have hDlt : h.objs.size < h'.objs.size := by obtain ⟨_, e, _⟩ := hl'; exact Heap.lt_size e
    have hCne : ∀ b, (b = z ∨ b = TI ∨ b = TO ∨ b = i1 ∨ b = i2 ∨ ∃ o, s.heap.get? b = some o) → b ≠ H2.objs.size := fun b hb => Z.ne (by rw [hC]; exact Nat.le_succ _) hb
    have hDne : ∀ b, (b = z ∨ b = TI ∨ b = TO ∨ b = i1 ∨ b = i2 ∨ ∃ o, s.heap.get? b = some o) → b ≠ h.objs.size := fun b hb => Z.ne (Nat.le_refl _) hb
    obtain ⟨a0, b0, hTO'⟩ := Z'.hTO
    by_cases hend : i = x.cps.size
    · -- the end
      have hkn : k = x.cps.size := by omega
      refine next_zipS_end hh Z'.D Z'.hz Z'.hTI hTO' Z'.h1 (by rw [hend]; exact Array.getElem?_eq_none (Nat.le_refl _)) fun h₂ hk₂ => ?_
      have hz2 : H2.objs.size ≠ z := (hCne z (.inl rfl)).symm
      have h12 : H2.objs.size ≠ i1 := (hCne i1 (.inr (.inr (.inr (.inl rfl))))).symm
      have hzD : h.objs.size ≠ z := (hDne z (.inl rfl)).symm
      have h1D : h.objs.size ≠ i1 := (hDne i1 (.inr (.inr (.inr (.inl rfl))))).symm
      refine ⟨m', hn'.at' fun o e => hk₂ _ o hz2 h12 e, fun h₃ hs₃ => ?_⟩
      refine hQ hkn _ h₃ tk' vs ?_ (by rw [show i = ns.length by omega, List.take_length] at hI'; exact hI') fun b o e => ?_
      · obtain ⟨o, ho, r⟩ := hl'
        exact ⟨o, hs₃.extBut _ _ hDC (hk₂ _ o hzD h1D ho), r⟩
      · refine hs₃.extBut _ _ (hCne b (.inr (.inr (.inr (.inr (.inr ⟨o, e⟩)))))) (hk₂ b o (fun q => ?_) (fun q => ?_) (Z'.keep b o e))
        · rw [q, Z.nz] at e; cases e
        · rw [q, Z.n1] at e; cases e
    · have hix : i < x.cps.size := by omega
      have hiy : i < y.cps.size := by omega
      obtain ⟨c, hcx⟩ : ∃ c, x.cps[i]? = some c := ⟨_, Array.getElem?_eq_getElem hix⟩
      obtain ⟨d, hdy⟩ : ∃ d, y.cps[i]? = some d := ⟨_, Array.getElem?_eq_getElem hiy⟩
      refine next_zipS_item Z'.D Z'.hz Z'.hTI hTO' Z'.h1 Z'.h2 hcx hdy fun h₂ t1 t2 tk₂ a1 a2 a3 a4 a5 a6 hk₂ => ?_
      have hTz : h'.objs.size ≠ z := Nat.ne_of_gt (Heap.lt_size Z'.hz)
      refine wpAny_letOwnedTupleGo_zip a1 fun h₃ hz₃ hs₃ => ?_
      have k3 : ∀ b o, b ≠ z → b ≠ TO → b ≠ i1 → b ≠ i2 → h'.get? b = some o → h₃.get? b = some o := fun b o q1 q2 q3 q4 e => hs₃.extBut b o q1 (hk₂ b o q1 q2 q3 q4 e)
      have cne := hCne
      have hCz : H2.objs.size ≠ z := (hCne z (.inl rfl)).symm
      have hCTO : H2.objs.size ≠ TO := (hCne TO (.inr (.inr (.inl rfl)))).symm
      have hC1 : H2.objs.size ≠ i1 := (hCne i1 (.inr (.inr (.inr (.inl rfl))))).symm
      have hC2 : H2.objs.size ≠ i2 := (hCne i2 (.inr (.inr (.inr (.inr (.inl rfl)))))).symm
      have hDz : h.objs.size ≠ z := (hDne z (.inl rfl)).symm
      have hDTO : h.objs.size ≠ TO := (hDne TO (.inr (.inr (.inl rfl)))).symm
      have hD1 : h.objs.size ≠ i1 := (hDne i1 (.inr (.inr (.inr (.inl rfl))))).symm
      have hD2 : h.objs.size ≠ i2 := (hDne i2 (.inr (.inr (.inr (.inr (.inl rfl)))))).symm
      have Z₃ : ZipAt s.heap h₃ z TI TO i1 i2 x y tx ty (i + 1) :=
        ⟨Z.D, hz₃, k3 _ _ Z.D.TIz Z.D.TITO Z.D.TIi1 Z.D.TIi2 Z'.hTI, ⟨_, _, hs₃.extBut _ _ Z.D.TOz a2⟩, a3.at fun o e => hs₃.extBut _ _ Z.D.i1z e, a4.at fun o e => hs₃.extBut _ _ Z.D.i2z e, Z.nz, Z.nTO, Z.n1, Z.n2,
          fun b o e => k3 b o (fun q => by rw [q, Z.nz] at e; cases e) (fun q => by rw [q, Z.nTO] at e; cases e) (fun q => by rw [q, Z.n1] at e; cases e) (fun q => by rw [q, Z.n2] at e; cases e) (Z'.keep b o e)⟩
      have hT₃ : h₃.IsTuple h'.objs.size #[.str ⟨#[c]⟩ t1, .str ⟨#[d]⟩ t2] := ⟨_, hs₃.extBut _ _ hTz a5, rfl, _, rfl⟩
      have hn₃ : h₃.Ns H2.objs.size m' := hn'.at' fun o e => k3 _ o hCz hCTO hC1 hC2 e
      have hl₃ : h₃.IsList h.objs.size vs.toArray := let ⟨o, ho, r⟩ := hl'; ⟨o, k3 _ o hDz hDTO hD1 hD2 ho, r⟩
      refine kcp_assign (env := compEnv unScope H2.objs.size (envOf name scope L a cd)) hh hT₃ rfl rfl rfl hn₃ fun h₄ tk₄ hn₄ hk₄ => ?_
      have Z₄ : ZipAt s.heap h₄ z TI TO i1 i2 x y tx ty (i + 1) := Z₃.to fun b o e hb => hk₄ b o (hCne b hb) e
      have hl₄ : h₄.IsList h.objs.size vs.toArray := let ⟨o, ho, r⟩ := hl₃; ⟨o, hk₄ _ o hDC ho, r⟩
      by_cases hik : i < k
      · obtain ⟨c', d', u, v, e1, e2, hu, hv', hni⟩ := hgood i hik
        rw [hcx] at e1; cases e1
        rw [hdy] at e2; cases e2
        refine elt_good rfl rfl rfl (by exact hn₄) rfl rfl hu hv' fun t tk₅ => ?_
        have hvl : vs.length = i := by rw [hI'.length, List.length_take]; omega
        refine wpAny_list_append (hsz := by rw [List.size_toArray, hvl]; omega) hl₄ fun h₅ hl₅ hs₅ => ?_
        rw [List.push_toArray] at hl₅
        exact ⟨k + 1 - (i + 1), by omega, h₅, tk₅, i + 1, _, _, rfl, hik, rfl, Z₄.to fun b o e hb => hs₅.extBut b o (hDne b hb) e, hl₅, ints_snoc hI' hni, hn₄.at' fun o e => hs₅.extBut _ o hDC.symm e⟩
      · have hik' : i = k := by omega
        subst hik'
        obtain ⟨c', d', e1, e2, hc, hd, hb⟩ := hbad hix
        rw [hcx] at e1; cases e1
        rw [hdy] at e2; cases e2
        refine elt_bad hh rfl rfl rfl (by exact hn₄) rfl rfl hc hd hb fun h₅ tk₅ e hx => ?_
        have hx' : Heap.NewExc s.heap h₅ e "ValueError" := ⟨fun b o q => hx.keeps b o (Z₄.keep b o q), (by
          cases q : s.heap.get? e with
          | none => rfl
          | some o => have h9 := Z₄.keep e o q; have := hx.new; rw [show h₄.get? e = some o from h9] at this; cases this), hx.there⟩
        refine noted (s' := { s with heap := h₅, toks := tk₅ }) K hx' F N hk fun h₆ B tp R₆ hup => ?_
        have hn₅ : h₅.Ns H2.objs.size _ := hn₄.at' fun o q => hx.keeps _ o q
        refine ⟨_, hup.ns hn₅, fun h₇ hs₇ => ?_⟩
        have R₇ := R₆.but hs₇ (hup.ns hn₅) hGC
        exact HeldB.passes (s' := { s with heap := h₇, toks := tk₅ }) R₇ fun h₈ R₈ => hE hix h₈ tk₅ e tp B R₈
  exact codeAny_compStart_list (loop _ rfl) (wpAny_pyIter_zip Z₁.hz (loop _ rfl))
end
end Mine
end

section
open PySem PySem.W PyProof.Rows PySem.Calls
namespace Mine
open PySem.Builtin

def enc (x : Str) : Array UInt8 := x.cps.map fun c => c.toUInt8
abbrev Asc (x : Str) : Prop := ∀ c ∈ x.cps.toList, c < 128
theorem Asc.all {x : Str} (h : Asc x) : x.cps.all (· < 128) = true := by
  rw [Array.all_eq_true']
  intro c hc
  exact decide_eq_true (h c (Array.mem_toList_iff.mpr hc))
theorem enc_size (x : Str) : (enc x).size = x.length := by simp [enc, Str.length]

theorem encode_entry (x : Str) (t : Tok) : Builtin.«str.encode» ⟨[.str x t], []⟩ = ((_codecs.encodeNarrow "str.encode" _codecs.utf8Codec none (.str x t) x >>= fun b => mkBytes b) >>= fun v => ret v) := by kernel_rfl

theorem twoStep {σ : Type} (f : Nat → σ → Sem (ForInStep σ)) (a b : σ) : ∀ n, 0 < n → (∀ k, f k a = pure (.yield b)) → (∀ k, f k b = pure (.done b)) → forIn (List.range' 0 n 1) a f = pure b
  | 0, h, _, _ => absurd h (Nat.lt_irrefl _)
  | 1, _, h1, _ => by
    show forIn [0] a f = pure b
    rw [List.forIn_cons, h1]; rfl
  | n + 2, _, h1, h2 => by
    rw [List.range'_succ, List.range'_succ, List.forIn_cons, h1]
    show forIn (_ :: _) b f = pure b
    rw [List.forIn_cons, h2]; rfl

theorem bad_false {c : Nat} (h : c < 128) : _codecs.utf8Codec.bad c = false := by
  show Str.isSurrogate c = false
  unfold Str.isSurrogate
  have : (0xD800 ≤ c) = False := by simp; omega
  simp [this]
theorem utf8Of_ascii {c : Nat} (h : c < 128) : Str.utf8Of c = [c.toUInt8] := by
  unfold Str.utf8Of
  rw [if_pos h]
theorem fold_ascii : ∀ (l : List Nat) (acc : Array UInt8), (∀ c ∈ l, c < 128) → l.foldl (fun acc y => acc ++ (_codecs.utf8Codec.bytesOf y).toArray) acc = acc ++ (l.map fun c => c.toUInt8).toArray
  | [], acc, _ => by simp
  | c :: r, acc, h => by
    rw [List.foldl_cons, fold_ascii r _ fun d hd => h d (List.mem_cons_of_mem _ hd)]
    rw [show _codecs.utf8Codec.bytesOf c = [c.toUInt8] from utf8Of_ascii (h c List.mem_cons_self)]
    simp

theorem narrow_ascii (x : Str) (t : Tok) (h : Asc x) (hL : x.length ≤ sizeLine) : _codecs.encodeNarrow "str.encode" _codecs.utf8Codec none (.str x t) x = pure (enc x) := by
  unfold _codecs.encodeNarrow
  simp only [Std.Legacy.Range.forIn_eq_forIn_range']
  by_cases hn : x.length = 0
  · have he : x.cps = #[] := Array.eq_empty_of_size_eq_zero hn
    rw [show Std.Legacy.Range.size [0:x.length] = 0 by simp [Std.Legacy.Range.size, hn]]
    show (pure ((0, (#[] : Array UInt8), _) : Nat × Array UInt8 × _codecs.Faults) >>= _) = _
    simp [enc, he]
  · rw [show Std.Legacy.Range.size [0:x.length] = x.length by simp [Std.Legacy.Range.size]]
    have hpos : 0 < x.cps.size := Nat.pos_of_ne_zero hn
    obtain ⟨c, hc⟩ : ∃ c, x.cps[0]? = some c := ⟨_, Array.getElem?_eq_getElem hpos⟩
    have hcm : ∀ d ∈ x.cps, d < 128 := fun d hd => h d (Array.mem_toList_iff.mpr hd)
    have hcl : c < 128 := hcm c (Array.mem_of_getElem? hc)
    refine (congrArg (· >>= _) (twoStep _ _ (x.cps.size, enc x, {}) x.length (Nat.pos_of_ne_zero hn) ?_ ?_)).trans ?_
    · intro k
      have hz : ¬ ((#[] : Array UInt8).size > sizeLine) := by simp
      have hf : (x.cps.extract 0 x.cps.size).findIdx? _codecs.utf8Codec.bad = none := by
        rw [Array.findIdx?_eq_none_iff]
        intro d hd
        rw [Array.extract_size] at hd
        exact bad_false (hcm d hd)
      dsimp only
      rw [if_neg hz, hc]
      dsimp only
      rw [if_pos (by rw [bad_false hcl]; rfl), hf]
      simp only [Option.getD_none, Array.extract_size, Nat.zero_add]
      have hfold : (x.cps.foldl (fun acc y => acc ++ (_codecs.utf8Codec.bytesOf y).toArray) #[]) = enc x := by
        rw [← Array.foldl_toList, fold_ascii _ _ h]
        exact Array.toList_inj.mp (by simp [enc])
      rw [hfold]
    · intro k
      have hz : ¬ ((enc x).size > sizeLine) := by rw [enc_size]; omega
      dsimp only
      rw [if_neg hz, show x.cps[x.cps.size]? = none from Array.getElem?_eq_none (Nat.le_refl _)]
    · rfl

/-! decode -/
theorem loopTo {σ : Type} (f : Nat → σ → Sem (ForInStep σ)) (g : Nat → σ) : ∀ n i, (∀ j, i ≤ j → j < i + n → ∀ k, f k (g j) = pure (.yield (g (j + 1)))) → ∀ a, forIn (List.range' a n 1) (g i) f = pure (g (i + n))
  | 0, i, _, a => by
    show forIn [] (g i) f = _
    rw [List.forIn_nil]; rfl
  | n + 1, i, h, a => by
    rw [List.range'_succ, List.forIn_cons, h i (Nat.le_refl _) (by omega)]
    show forIn (List.range' (a + 1) n 1) (g (i + 1)) f = _
    rw [loopTo f g n (i + 1) (fun j h1 h2 k => h j (by omega) (by omega) k) (a + 1), show i + 1 + n = i + (n + 1) by omega]

theorem dec_at {x : Str} (h : Asc x) {p : Nat} (hp : p < x.cps.size) : _codecs.utf8Decoder.find true (enc x) p = .text [x.cps[p]] (p + 1) := by
  have hc : x.cps[p] < 128 := h _ (Array.mem_toList_iff.mpr (Array.getElem_mem hp))
  have hg : ((enc x).getD p 0).toNat = x.cps[p] := by
    have : (enc x).getD p 0 = x.cps[p].toUInt8 := by
      simp [enc, Array.getD, hp]
    rw [this]
    show x.cps[p] % 256 = _
    omega
  have hu : Bytes.utf8At (enc x) p = (.char x.cps[p], p + 1) := by
    unfold Bytes.utf8At
    rw [hg]
    simp only []
    rw [if_pos (by omega)]
  simp only [_codecs.utf8Decoder, hu]
  rfl

theorem decoder_ascii {id : String} {x : Str} (h : Asc x) (hL : x.length ≤ sizeLine) : _codecs.runDecoder id _codecs.utf8Decoder none true (enc x) 0 [] = pure (x.cps, x.cps.size) := by
  unfold _codecs.runDecoder
  simp only [Std.Legacy.Range.forIn_eq_forIn_range']
  have hs : (enc x).size = x.cps.size := by simp [enc]
  rw [show Std.Legacy.Range.size [0:(enc x).size] = x.cps.size by simp [Std.Legacy.Range.size, hs]]
  have h0 : ((0, (#[] : Array Nat), ({} : _codecs.Faults)) : Nat × Array Nat × _codecs.Faults) = (fun j => ((j, x.cps.extract 0 j, ({} : _codecs.Faults)) : Nat × Array Nat × _codecs.Faults)) 0 := by simp
  rw [h0]
  refine (congrArg (· >>= _) (loopTo _ (fun j => ((j, x.cps.extract 0 j, ({} : _codecs.Faults)) : Nat × Array Nat × _codecs.Faults)) x.cps.size 0 ?_ 0)).trans ?_
  · intro j _ hj k
    have hj' : j < x.cps.size := by omega
    have hz : ¬ ((x.cps.extract 0 j).size > sizeLine) := by
      simp only [Array.size_extract]
      have : x.length = x.cps.size := rfl
      omega
    dsimp only
    rw [if_neg hz, if_neg (by rw [hs]; omega), dec_at h hj']
    dsimp only
    have : x.cps.extract 0 j ++ #[x.cps[j]] = x.cps.extract 0 (j + 1) := by
      apply Array.toList_inj.mp
      simp only [Array.toList_append, Array.toList_extract, List.extract_eq_take_drop, Nat.sub_zero, List.drop_zero]
      rw [List.take_add_one]
      simp [hj']
    rw [show ([x.cps[j]] : List Nat).toArray = #[x.cps[j]] from rfl, this]
  · rw [Nat.zero_add, Array.extract_size]
    rfl

theorem decode_empty_entry (t : Tok) : «bytes.decode» ⟨[.bytes #[] t], []⟩ = (rule "bytes.decode.empty" >>= fun _ => retStr Str.empty) := by kernel_rfl

section
variable {prog : Program} {w : World} {A : Around} {E : Value → Shared → Prop} {s : Shared}
theorem decode_asc {x : Str} {t : Tok} {Q : Value → Shared → Prop} (h : Asc x) (hL : x.length ≤ sizeLine) (hQ : ∀ t' k, Q (.str x t') { s with toks := k }) :
    wpAny (model prog w) A (call (.builtin "bytes.decode") [.bytes (enc x) t]) Q E s := by
  cases he : (enc x).toList with
  | nil =>
    have h0 : enc x = #[] := Array.toList_inj.mp (by rw [he])
    have hx : x = Str.empty := by
      have h1 : (enc x).size = 0 := by rw [h0]; rfl
      rw [enc_size] at h1
      obtain ⟨c⟩ := x
      have : c = #[] := Array.eq_empty_of_size_eq_zero h1
      subst this; rfl
    rw [h0]
    refine call_meets FB.slot_bytes_decode (typeIs_bytes _ _ _) FB.entry_bytes_decode (FB.args_bytes_decode_1 _)
      (S := fun _ R s => ∀ t' k, R (.ok (.ret (.str x t'))) { s with toks := k }) (.of_wp fun prog w A R s hS => ?_) (fun t' k => hQ t' k)
    rw [decode_empty_entry]
    refine wpAny_bind (wpAny_rule ?_)
    unfold retStr
    refine wpAny_bind (wpAny_mkStr (wpAny_pure ⟨_, rfl, ?_⟩) (by decide))
    have := hS s.toks (s.toks + 1)
    rw [hx] at this
    exact this
  | cons c cs =>
    have h0 : enc x = (c :: cs).toArray := Array.toList_inj.mp (by rw [he])
    have hd := fun id => decoder_ascii (id := id) h hL
    rw [h0] at hd ⊢
    exact KBd.decode hd (by rw [sizeLine_eq] at hL; exact hL) hQ

theorem encode_asc {x : Str} {t : Tok} {Q : Value → Shared → Prop} (h : Asc x) (hL : x.length ≤ sizeLine) (hQ : ∀ t' k, Q (.bytes (enc x) t') { s with toks := k }) :
    wpAny (model prog w) A (call (.builtin "str.encode") [.str x t]) Q E s := by
  refine call_meets F.slot_str_encode (typeIs_str _ _ _) F.entry_str_encode (F.args_str_encode_1 _)
      (S := fun _ R s => ∀ t' k, R (.ok (.ret (.bytes (enc x) t'))) { s with toks := k }) (.of_wp fun prog w A R s hS => ?_) (fun t' k => hQ t' k)
  rw [encode_entry, narrow_ascii x t h hL]
  refine wpAny_bind (wpAny_bind (wpAny_pure ?_))
  exact wpAny_mkBytes (wpAny_pure ⟨_, rfl, hS _ _⟩) (by rw [enc_size]; exact hL)
end
end Mine
end

section
open PySem PySem.W PyProof.Rows PySem.Calls
namespace Mine
open PySem.Builtin

/-! ### the two halves of a text: text[::2], text[1::2] -/
theorem sliceRange_two (a n : Nat) (h : a ≤ 1) (hn : 0 < n) : sliceRange (a : Int) ((2 * n : Nat) : Int) 2 = (List.range n).map fun k => 2 * k + a := by
  unfold sliceRange
  rw [if_pos (by decide)]
  have h1 : (a : Int) < ((2 * n : Nat) : Int) := by omega
  rw [if_pos h1]
  have h2 : ((((2 * n : Nat) : Int) - (a : Int) + 2 - 1) / 2).toNat = n := by omega
  simp only [h2]
  refine List.map_congr_left fun k _ => ?_
  omega
theorem slice_even (n : Nat) : Str.strSliceIndices none none 2 (2 * n) = (List.range n).map fun k => 2 * k + 0 := by
  cases n with
  | zero => rfl
  | succ n => exact sliceRange_two 0 (n + 1) (by omega) (by omega)
theorem slice_odd (n : Nat) : Str.strSliceIndices (some 1) none 2 (2 * n) = (List.range n).map fun k => 2 * k + 1 := by
  cases n with
  | zero => rfl
  | succ n =>
    have h := sliceRange_two 1 (n + 1) (by omega) (by omega)
    unfold Str.strSliceIndices
    simp only []
    rw [show (max (0 : Int) (min (if (1 : Int) < 0 then 1 + ((2 * (n + 1) : Nat) : Int) else 1) ((2 * (n + 1) : Nat) : Int))) = ((1 : Nat) : Int) by rw [if_neg (by decide)]; omega]
    exact h

def half (x : Str) (n a : Nat) : Str := ⟨((List.range n).map fun k => x.cps.getD (2 * k + a) 0).toArray⟩
theorem filterMap_all {α β : Type} (f : α → Option β) (g : α → β) : ∀ l : List α, (∀ a ∈ l, f a = some (g a)) → l.filterMap f = l.map g
  | [], _ => rfl
  | a :: r, h => by
    rw [List.filterMap_cons, h a List.mem_cons_self, List.map_cons, filterMap_all f g r fun b hb => h b (List.mem_cons_of_mem _ hb)]
theorem half_is (x : Str) (n a : Nat) (ha : a ≤ 1) (hx : x.length = 2 * n) : (((List.range n).map fun k => 2 * k + a).filterMap (x.cps[·]?)) = (List.range n).map fun k => x.cps.getD (2 * k + a) 0 := by
  rw [List.filterMap_map]
  refine filterMap_all _ _ _ fun k hk => ?_
  have hk' : k < n := List.mem_range.mp hk
  have hs : x.cps.size = 2 * n := hx
  have hlt : 2 * k + a < x.cps.size := by omega
  show x.cps[2 * k + a]? = some (x.cps.getD (2 * k + a) 0)
  simp [Array.getD, hlt]
theorem half_size (x : Str) (n a : Nat) : (half x n a).cps.size = n := by simp [half]
theorem half_get (x : Str) (n a : Nat) {i : Nat} (h : i < n) : (half x n a).cps[i]? = some (x.cps.getD (2 * i + a) 0) := by
  simp [half, h]
theorem getD_asc {x : Str} (h : Asc x) (i : Nat) : x.cps.getD i 0 < 128 := by
  by_cases hi : i < x.cps.size
  · have : x.cps.getD i 0 = x.cps[i] := by simp [Array.getD, hi]
    rw [this]
    exact h _ (Array.mem_toList_iff.mpr (Array.getElem_mem hi))
  · have : x.cps.getD i 0 = 0 := by simp [Array.getD, hi]
    rw [this]; decide
theorem half_asc {x : Str} (h : Asc x) (n a : Nat) : Asc (half x n a) := by
  intro c hc
  simp only [half, List.mem_map, List.mem_range] at hc
  obtain ⟨k, _, rfl⟩ := hc
  exact getD_asc h _

theorem za_new (N : Nat) : ZA (N + 4) (N + 2) (N + 3) N (N + 1) := by
  constructor <;> (refine neN ?_; omega)
abbrev unIter : Expr := .Call (.Name (Str.ofString "zip") ⟨6, 93, 6, 96⟩) [.Subscript (.Name (Str.ofString "text") ⟨6, 97, 6, 101⟩) (.Slice none none (some (.Constant (.int 2) 0 ⟨6, 104, 6, 105⟩)) ⟨6, 102, 6, 105⟩) ⟨6, 97, 6, 106⟩,
  .Subscript (.Name (Str.ofString "text") ⟨6, 108, 6, 112⟩) (.Slice (some (.Constant (.int 1) 0 ⟨6, 113, 6, 114⟩)) none (some (.Constant (.int 2) 0 ⟨6, 116, 6, 117⟩)) ⟨6, 113, 6, 117⟩) ⟨6, 108, 6, 118⟩] [] ⟨6, 93, 6, 119⟩

section
variable {prog : Program} {w : World} {A : Around} {E : Value → Shared → Prop} {s : Shared} {env : Env} {m : Str → Option Value}

theorem iter_un {x : Str} {t : Tok} {n : Nat} (hk : env.scope.kind = .function) (hl : env.kindOf (Str.ofString "text") = some .local) (hn : s.heap.Ns env.locals m) (hm : m (Str.ofString "text") = some (.str x t))
    (hzip : ∀ (s' : Shared) (Q : Value → Shared → Prop), s'.heap = s.heap → Q (.type "zip") s' → wpAny (model prog w) A (eval (.Name (Str.ofString "zip") ⟨6, 93, 6, 96⟩) env) Q E s')
    (ha : Asc x) (hx : x.length = 2 * n) (hL : n ≤ sizeLine) :
    wpAny (model prog w) A (eval unIter env) (fun xv s₁ => ∃ z TI TO i1 i2 h tk t1 t2, xv = .ref z ∧ ZipAt s.heap h z TI TO i1 i2 (half x n 0) (half x n 1) t1 t2 0 ∧ s₁ = { s with heap := h, toks := tk }) E s := by
  refine Call_ ?_
  refine hzip s _ rfl ?_
  refine PyProof.Rows.callWith_type1 ?_
  refine spliced_more ?_
  refine wpAny_Subscript_Slice_step (T := "str") F.slot_str_getitem.lookup ?_
  refine wpAny_Name (wpAny_loadName_local hk hl hn hm ?_)
  refine wpAny_Slice ?_
  rw [evalPart_none, evalPart_some]
  refine wpAny_pure (wpAny_pure (wpAny_Constant_int ?_))
  refine ⟨typeIs_str _ _ _, ?_⟩
  refine wpAny_getItem_str_slice (l := none) (u := none) (st := some (2, s.toks)) ⟨_, Heap.get?_push_size _ rfl, rfl, rfl⟩ rfl ?_
  have e0 : sliceMade x t none none (some (2, s.toks)) = .str (half x n 0) := by
    show Made.str ⟨((Str.strSliceIndices none none 2 x.length).filterMap (x.cps[·]?)).toArray⟩ = _
    rw [hx, slice_even, half_is x n 0 (by omega) hx]
    rfl
  rw [e0]
  refine ⟨by show (half x n 0).cps.size ≤ _; rw [half_size]; exact hL, ?_⟩
  refine spliced_more ?_
  refine wpAny_Subscript_Slice_step (T := "str") F.slot_str_getitem.lookup ?_
  refine wpAny_Name (wpAny_loadName_local hk hl (by exact hn.push _) hm ?_)
  refine wpAny_Slice ?_
  rw [evalPart_none, evalPart_some, evalPart_some]
  refine wpAny_Constant_int (wpAny_pure (wpAny_Constant_int ?_))
  refine ⟨typeIs_str _ _ _, ?_⟩
  refine wpAny_getItem_str_slice (l := some (1, _)) (u := none) (st := some (2, _)) ⟨_, Heap.get?_push_size _ rfl, rfl, rfl⟩ rfl ?_
  have e1 : ∀ t1 t2, sliceMade x t (some (1, t1)) none (some (2, t2)) = .str (half x n 1) := by
    intro t1 t2
    show Made.str ⟨((Str.strSliceIndices (some 1) none 2 x.length).filterMap (x.cps[·]?)).toArray⟩ = _
    rw [hx, slice_odd, half_is x n 1 (by omega) hx]
    rfl
  rw [e1]
  refine ⟨by show (half x n 1).cps.size ≤ _; rw [half_size]; exact hL, ?_⟩
  refine spliced_nil ?_
  refine call_zipS (half_asc ha n 0).all (half_asc ha n 1).all fun h' z1 z2 z3 z4 z5 z6 z7 => ?_
  dsimp only at z1 z2 z3 z4 z5 z6 z7 ⊢
  have keep : ∀ b o, s.heap.get? b = some o → h'.get? b = some o := fun b o e => z7 b o (Heap.get?_push_of_some _ (Heap.get?_push_of_some _ e))
  have sz : ∀ b, s.heap.objs.size ≤ b → s.heap.get? b = none := fun b hb => by
    cases e : s.heap.get? b with
    | none => rfl
    | some o => exact absurd (Heap.lt_size e) (Nat.not_lt.mpr hb)
  have hsz : s.heap.objs.size ≤ ((s.heap.push { cls := .type "slice", data := .fields #[.none, .none, .int 2 s.toks] }).push { cls := .type "slice", data := .fields #[.int 1 (s.toks + 1 + 1), .none, .int 2 (s.toks + 1 + 1 + 1)] }).objs.size := by
    simp only [Heap.size_push]; omega
  exact ⟨_, _, _, _, _, h', _, _, _, rfl, ⟨za_new _, z1, z2, ⟨_, _, z3⟩, z4, z5, sz _ (Nat.le_trans hsz (Nat.le_add_right _ _)), sz _ (Nat.le_trans hsz (Nat.le_add_right _ _)), sz _ hsz, sz _ (Nat.le_trans hsz (Nat.le_add_right _ _)), keep⟩, rfl⟩
end
end Mine
end

section
open PySem PySem.W PyProof.Rows PySem.Calls
namespace Mine
open PySem.Builtin

def low (x : Str) : Str := ⟨x.cps.map lo1⟩
theorem lo1_lt {c : Nat} (h : c < 128) : lo1 c < 128 := by
  unfold lo1; split <;> omega
theorem low_asc {x : Str} (h : Asc x) : Asc (low x) := by
  intro c hc
  simp only [low, Array.toList_map, List.mem_map] at hc
  obtain ⟨d, hd, rfl⟩ := hc
  exact lo1_lt (h d hd)
theorem low_length (x : Str) : (low x).length = x.length := by simp [low, Str.length]
theorem low_getD (x : Str) {i : Nat} (h : i < x.length) : (low x).cps.getD i 0 = lo1 (x.cps.getD i 0) := by
  have h' : i < x.cps.size := h
  simp [low, Array.getD, h']

/-- the text y (small letters) spells row -/
structure GoodT (y : Str) (row : Array UInt8) : Prop where
  asc : Asc y
  len : y.length = 2 * row.size
  hi : ∀ i, i < row.size → hv (y.cps.getD (2 * i + 0) 0) = some ((row.getD i 0).toNat / 16)
  lo : ∀ i, i < row.size → hv (y.cps.getD (2 * i + 1) 0) = some ((row.getD i 0).toNat % 16)
/-- the text y has a sign that is no digit -/
structure BadT (y : Str) (n : Nat) : Prop where
  asc : Asc y
  len : y.length = 2 * n
  bad : ∃ j, j < 2 * n ∧ hv (y.cps.getD j 0) = none

theorem first_bad {p : Nat → Prop} [DecidablePred p] : ∀ n, (∃ i, i < n ∧ p i) → ∃ k, k < n ∧ p k ∧ ∀ i, i < k → ¬ p i
  | 0, ⟨i, h, _⟩ => absurd h (Nat.not_lt_zero i)
  | n + 1, ⟨i, h, hp⟩ => by
    by_cases q : ∃ i, i < n ∧ p i
    · obtain ⟨k, a, b, c⟩ := first_bad n q
      exact ⟨k, by omega, b, c⟩
    · have : i = n := by
        rcases Nat.lt_or_ge i n with h' | h'
        · exact absurd ⟨i, h', hp⟩ q
        · omega
      subst this
      exact ⟨i, h, hp, fun j hj hpj => q ⟨j, hj, hpj⟩⟩

theorem ints_at (row : Array UInt8) {i : Nat} (h : i < row.size) : (KBw.bInts row)[i]? = some (16 * (((row.getD i 0).toNat / 16 : Nat) : Int) + (((row.getD i 0).toNat % 16 : Nat) : Int)) := by
  have h1 : row[i]? = some (row.getD i 0) := by simp [Array.getD, h]
  rw [KBw.ints_get h1]
  congr 1
  omega
theorem bytes_back (row : Array UInt8) : ((KBw.bInts row).map fun n => n.toNat.toUInt8).toArray = row := by
  apply Array.toList_inj.mp
  show ((row.toList.map fun c => (c.toNat : Int)).map fun n => n.toNat.toUInt8) = row.toList
  rw [List.map_map]
  refine (List.map_congr_left fun c _ => ?_).trans (List.map_id _)
  show ((c.toNat : Int)).toNat.toUInt8 = c
  simp

section
variable {prog : Program} {w : World} {A : Around} {E : Value → Shared → Prop} {s : Shared} {base g : Heap} {outer : List Env} {L a : Addr} {m : Str → Option Value} {name : Str} {scope : Scope} {cd : Value} {news : List (Addr × Obj)}
  {Kf : Frag} {p : Program} {loose : List Str} {mean : ExcName → Option Value} {mg mb : Str → Option Value} {y : Str} {t : Tok} {Q : Value → Shared → Prop}

theorem lower_asc {x : Str} (h : Asc x) (hL : x.length ≤ 5592405) (hQ : ∀ t' k, Q (.str (low x) t') { s with toks := k }) : wpAny (model prog w) A (call (.builtin "str.lower") [.str x t]) Q E s :=
  SCL.lower hL fun _ => by rw [lower_ascii h]; exact hQ _ _

theorem bytes_row {l : Addr} {vs : List Value} {row : Array UInt8} (F : Fr g L s.heap m) (N : News g L s.heap news) (hl : s.heap.IsList l vs.toArray) (hi : IntsAre vs (KBw.bInts row)) (hz : row.size ≤ sizeLine) (hh : A.handled = none)
    (h : ∀ h' t k, Fr g L h' m → News g L h' news → Q (.bytes row t) { s with heap := h', toks := k }) : wpAny (model prog w) A (call (.type "bytes") [.ref l]) Q E s := by
  refine bytes_K F N hl hi (fun n hn => KBw.ints_in hn) (by rw [hi.length, KBw.ints_length]; exact hz) hh fun h' t k F' N' _ => ?_
  rw [bytes_back]
  exact h h' t k F' N'

theorem comp_good {row : Array UInt8} (K : Below A base outer g) (F : Fr g L s.heap m) (N : News g L s.heap news) (X : Kf.In g) (T : Top p loose mean mg mb g) (hG : GoodT y row) (hz : row.size ≤ sizeLine)
    (hm : m (Str.ofString "text") = some (.str y t)) (hk : scope.kind = .function) (hh : A.handled = none) (hl : (envOf name scope L a cd).kindOf (Str.ofString "text") = some .local)
    (hzk : (envOf name scope L a cd).kindOf (Str.ofString "zip") = some .globalImplicit) (hzn : nsIn Kf mainGlobals (Str.ofString "zip") = some none) (hzb : bootBuiltins (Str.ofString "zip") = some (.type "zip"))
    (hs : ∀ v, foldedSetIterable unIter (envOf name scope L a cd) v = pure v)
    (h : ∀ D h' tk vs, Fr g L h' m → News g L h' news → h'.IsList D vs.toArray → IntsAre vs (KBw.bInts row) → Q (.ref D) { s with heap := h', toks := tk }) :
    wpAny (model prog w) (A.deeper (envOf name scope L a cd)) (eval (unComp unIter) (envOf name scope L a cd)) Q E s := by
  refine comp_un (k := row.size) (ns := KBw.bInts row) (x := half y row.size 0) (y := half y row.size 1) K F N hk hh hs
    (iter_un hk hl F.ns hm (fun s' Q' e hQ' => ?_) hG.asc hG.len hz) hz ?_ ?_ ?_ ?_ ?_ ?_ ?_
  · have F' : Fr g L s'.heap m := by rw [e]; exact F
    exact name_B F' X (topRead_of T) hzn hzb (by decide) hQ' hk hzk
  · rw [half_size, half_size]
  · rw [half_size]; exact Nat.le_refl _
  · exact KBw.ints_length row
  · intro i hi
    exact ⟨_, _, _, _, half_get y row.size 0 hi, half_get y row.size 1 hi, hG.hi i hi, hG.lo i hi, ints_at row hi⟩
  · intro hlt
    rw [half_size] at hlt
    exact absurd hlt (Nat.lt_irrefl _)
  · intro _ D h' tk vs hD hI hk'
    exact h D h' tk vs (F.keeps hk') (fun q hq => ⟨hk' _ _ (N q hq).1, (N q hq).2⟩) hD hI
  · intro hlt
    rw [half_size] at hlt
    exact absurd hlt (Nat.lt_irrefl _)

theorem comp_bad {n : Nat} (K : Below A base outer g) (F : Fr g L s.heap m) (N : News g L s.heap news) (X : Kf.In g) (T : Top p loose mean mg mb g) (hB : BadT y n) (hz : n ≤ sizeLine)
    (hm : m (Str.ofString "text") = some (.str y t)) (hk : scope.kind = .function) (hh : A.handled = none) (hl : (envOf name scope L a cd).kindOf (Str.ofString "text") = some .local)
    (hzk : (envOf name scope L a cd).kindOf (Str.ofString "zip") = some .globalImplicit) (hzn : nsIn Kf mainGlobals (Str.ofString "zip") = some none) (hzb : bootBuiltins (Str.ofString "zip") = some (.type "zip"))
    (hs : ∀ v, foldedSetIterable unIter (envOf name scope L a cd) v = pure v)
    (hE : ∀ h' tk e tp B, HeldB base g s.heap outer (envOf name scope L a cd) L e (.type "ValueError") tp news B h' → E (.ref e) { s with heap := h', toks := tk }) :
    wpAny (model prog w) (A.deeper (envOf name scope L a cd)) (eval (unComp unIter) (envOf name scope L a cd)) Q E s := by
  obtain ⟨j, hj, hjb⟩ := hB.bad
  obtain ⟨k, hkn, hkb, hkf⟩ := first_bad (p := fun i => hv (y.cps.getD (2 * i + 0) 0) = none ∨ hv (y.cps.getD (2 * i + 1) 0) = none) n ⟨j / 2, by omega, by
    rcases Nat.mod_two_eq_zero_or_one j with q | q
    · exact .inl (by rw [show 2 * (j / 2) + 0 = j by omega]; exact hjb)
    · exact .inr (by rw [show 2 * (j / 2) + 1 = j by omega]; exact hjb)⟩
  have hval : ∀ i, i < k → ∃ u v, hv (y.cps.getD (2 * i + 0) 0) = some u ∧ hv (y.cps.getD (2 * i + 1) 0) = some v := fun i hi => by
    have h1 := hkf i hi
    cases e0 : hv (y.cps.getD (2 * i + 0) 0) with
    | none => exact absurd (.inl e0) h1
    | some u =>
      cases e1 : hv (y.cps.getD (2 * i + 1) 0) with
      | none => exact absurd (.inr e1) h1
      | some v => exact ⟨u, v, rfl, rfl⟩
  refine comp_un (k := k) (ns := (List.range k).map fun i => 16 * (((hv (y.cps.getD (2 * i + 0) 0)).getD 0 : Nat) : Int) + (((hv (y.cps.getD (2 * i + 1) 0)).getD 0 : Nat) : Int)) (x := half y n 0) (y := half y n 1) K F N hk hh hs
    (iter_un hk hl F.ns hm (fun s' Q' e hQ' => ?_) hB.asc hB.len hz) ?_ ?_ ?_ ?_ ?_ ?_ ?_ ?_
  · have F' : Fr g L s'.heap m := by rw [e]; exact F
    exact name_B F' X (topRead_of T) hzn hzb (by decide) hQ' hk hzk
  · omega
  · rw [half_size, half_size]
  · rw [half_size]; omega
  · simp
  · intro i hi
    obtain ⟨u, v, hu, hv'⟩ := hval i hi
    exact ⟨_, _, u, v, half_get y n 0 (by omega), half_get y n 1 (by omega), hu, hv', by rw [List.getElem?_map, List.getElem?_range hi, Option.map_some, hu, hv']; rfl⟩
  · intro _
    exact ⟨_, _, half_get y n 0 hkn, half_get y n 1 hkn, getD_asc hB.asc _, getD_asc hB.asc _, hkb⟩
  · intro e
    rw [half_size] at e
    omega
  · intro _ h' tk e tp B R
    exact hE h' tk e tp B R
end
end Mine
end

section
open PySem PySem.W PyProof.Rows
namespace Mine
open_top hd for PySem.Challenge.rw_ft5009_01
end Mine
end

section
open PySem PySem.W PyProof.Rows
namespace Mine
abbrev Clm (w : World) (mean : ExcName → Option Value) (mg mb : Str → Option Value) (f : Addr) (news : List (Addr × Obj)) (vs : List Value) (R : Tok → Value) : Prop :=
  ∀ (dp un : Nat) (gd : Option (List Code)) (cn : Str) (cs : Scope) (a : Addr) (ccd : Value) (cl : List (Str × Addr)) (outer : List Env) (A₀ : Around) (base h₀ : Heap) (L : Addr) (m : Str → Option Value) (s : Shared) (Q E : Value → Shared → Prop),
    Below A₀ base outer h₀ → Fr h₀ L s.heap m → (hd.heap_39 w.params).In h₀ → News h₀ L s.heap news → Top hd.view_39 (looseW hd.view_39 []) mean mg mb h₀ → cs.kind = .function → dp + 1 < recursionLimit → un + 8 < cLine →
    (∀ (t : Tok) (h' : Heap) (tk' : Nat), Fr h₀ L h' m → News h₀ L h' news → Q (R t) { s with heap := h', toks := tk' }) →
      wpAny (model PySem.Challenge.rw_ft5009_01.row.prog w) (ktrTop dp un gd cn cs L a ccd cl outer) (call (.ref f) vs) Q E s

local macro_rules | `(tactic| walk_at "call builtin:str.lower") => `(tactic| (refine lower_asc (by assumption) (by assumption) ?_; intro _ _))
local macro_rules | `(tactic| walk_at "call builtin:bytes.decode") => `(tactic| (refine decode_asc (by assumption) (by assumption) ?_; intro _ _))
local macro_rules | `(tactic| walk_at "eval ListComp") => `(tactic| (k_dflt (refine' comp_good ?K ?F ?N ?X ?T ?G ?z ?m ?k ?h ?l ?zk ?zn ?zb ?s ?_; (case K => assumption); (case F => assumption); (case N => assumption); (case X => assumption); (case T => assumption); (case G => assumption); (case z => assumption); (case m => with_unfolding_all rfl); (case k => rfl); (case h => rfl); (case l => rfl); (case zk => rfl); (case zn => k_is); (case zb => boot_by_name); (case s => intro _; rfl)); intro D9 h9 tk9 vs9 F9 N9 hD9 hI9))
local macro_rules | `(tactic| walk_at "call type:bytes") => `(tactic| (refine bytes_row (by assumption) (by assumption) (by assumption) (by assumption) (by assumption) (by rfl) ?_; intro h8 t8 k8 F8 N8))

theorem un_str (w : World) (mean : ExcName → Option Value) (mg mb : Str → Option Value) (news : List (Addr × Obj)) (x : Str) (t : Tok) (row : Array UInt8) (hA : Asc x) (hG : GoodT (low x) row) (hL : x.length ≤ 5592405) (hz : row.size ≤ sizeLine) :
    Clm w mean mg mb 24 news [.str x t] (fun t => .bytes row t) := by
  unfold Clm
  k_fill
  intros
  rename_i hret
  refine wpAny_call ?_
  k_dflt cell_enter
  repeat' (first | (k_unfold; (try dsimp only)) | walk1 | (dsimp only; walk1) | fail "no step")
  all_goals exact hret _ _ _ (by assumption) (by assumption)

theorem un_bytes (w : World) (mean : ExcName → Option Value) (mg mb : Str → Option Value) (news : List (Addr × Obj)) (x : Str) (t : Tok) (row : Array UInt8) (hA : Asc x) (hG : GoodT (low x) row) (hL : x.length ≤ 5592405) (hL2 : x.length ≤ sizeLine) (hz : row.size ≤ sizeLine) :
    Clm w mean mg mb 24 news [.bytes (enc x) t] (fun t => .bytes row t) := by
  unfold Clm
  k_fill
  intros
  rename_i hret
  refine wpAny_call ?_
  k_dflt cell_enter
  repeat' (first | (k_unfold; (try dsimp only)) | walk1 | (dsimp only; walk1) | fail "no step")
  all_goals exact hret _ _ _ (by assumption) (by assumption)
end Mine
end

section
open PySem PySem.W PyProof.Rows
namespace Mine2
open Mine
abbrev ClmBad (w : World) (mean : ExcName → Option Value) (mg mb : Str → Option Value) (f : Addr) (news : List (Addr × Obj)) (vs : List Value) : Prop :=
  ∀ (dp un : Nat) (gd : Option (List Code)) (cn : Str) (cs : Scope) (a : Addr) (ccd : Value) (cl : List (Str × Addr)) (outer : List Env) (A₀ : Around) (base h₀ : Heap) (L : Addr) (m : Str → Option Value) (s : Shared) (Q E : Value → Shared → Prop),
    Below A₀ base outer h₀ → Fr h₀ L s.heap m → (hd.heap_39 w.params).In h₀ → News h₀ L s.heap news → Top hd.view_39 (looseW hd.view_39 []) mean mg mb h₀ → cs.kind = .function → dp + 1 < recursionLimit → un + 8 < cLine →
    (∀ e G h' tk, Fr h₀ L G m → RaisedSN base G (envX cn cs L a ccd cl :: outer) e (.type "ValueError") news h' → G.UpToSlots h' → E (.ref e) { s with heap := h', toks := tk }) →
      wpAny (model PySem.Challenge.rw_ft5009_01.row.prog w) (ktrTop dp un gd cn cs L a ccd cl outer) (call (.ref f) vs) Q E s

local macro_rules | `(tactic| walk_at "mine pad B9 0") => `(tactic| skip)
local macro_rules | `(tactic| walk_at "call builtin:str.lower") => `(tactic| (refine lower_asc (by assumption) (by assumption) ?_; intro _ _))
local macro_rules | `(tactic| walk_at "call builtin:bytes.decode") => `(tactic| (refine decode_asc (by assumption) (by assumption) ?_; intro _ _))
local macro_rules | `(tactic| walk_at "eval ListComp") => `(tactic| (k_dflt (refine' comp_bad ?K ?F ?N ?X ?T ?G ?z ?m ?k ?h ?l ?zk ?zn ?zb ?s ?_; (case K => assumption); (case F => assumption); (case N => assumption); (case X => assumption); (case T => assumption); (case G => assumption); (case z => assumption); (case m => with_unfolding_all rfl); (case k => rfl); (case h => rfl); (case l => rfl); (case zk => rfl); (case zn => k_is); (case zb => boot_by_name); (case s => intro _; rfl)); intro h9 tk9 e9 tp9 B9 R9))
local macro_rules | `(tactic| walk_at "leaving ref") => `(tactic| (refine HeldB.leaves (by assumption) ?_; intro h8 R8 S8))

theorem bad_str (w : World) (mean : ExcName → Option Value) (mg mb : Str → Option Value) (news : List (Addr × Obj)) (x : Str) (t : Tok) (n : Nat) (hA : Asc x) (hB : BadT (low x) n) (hL : x.length ≤ 5592405) (hz : n ≤ sizeLine) :
    ClmBad w mean mg mb 24 news [.str x t] := by
  unfold ClmBad
  k_fill
  intros
  rename_i hE
  refine wpAny_call ?_
  k_dflt cell_enter
  repeat' (first | (k_unfold; (try dsimp only)) | walk1 | (dsimp only; walk1) | fail "no step")
  all_goals exact hE _ _ _ _ (by assumption) (by assumption) (by assumption)
theorem bad_bytes (w : World) (mean : ExcName → Option Value) (mg mb : Str → Option Value) (news : List (Addr × Obj)) (x : Str) (t : Tok) (n : Nat) (hA : Asc x) (hB : BadT (low x) n) (hL : x.length ≤ 5592405) (hL2 : x.length ≤ sizeLine) (hz : n ≤ sizeLine) :
    ClmBad w mean mg mb 24 news [.bytes (enc x) t] := by
  unfold ClmBad
  k_fill
  intros
  rename_i hE
  refine wpAny_call ?_
  k_dflt cell_enter
  repeat' (first | (k_unfold; (try dsimp only)) | walk1 | (dsimp only; walk1) | fail "no step")
  all_goals exact hE _ _ _ _ (by assumption) (by assumption) (by assumption)
end Mine2
end

section
open PySem PySem.W PyProof.Rows PySem.Calls
namespace Mine
open PySem.Builtin

/-! ### hexlify's comprehension: two clauses -/
theorem turn_outer (elt t1 i1 t2 i2 : Expr) (scope : Scope) (pos : Pos) (it acc : Value) (env : Env) :
    compTurn (.ListComp elt [⟨t1, i1, [], 0⟩, ⟨t2, i2, [], 0⟩] scope pos) 0 it acc env = (standAt i1.pos >>= fun _ => pyNext it >>= fun r => match r with
      | none => pure (.done .next)
      | some v => letOwnedTupleGo t1 it v >>= fun _ => assign t1 env v >>= fun _ =>
        (eval i2 env >>= fun x => standAt i2.pos >>= fun _ => foldedSetIterable i2 env x >>= fun x => holding [x] (pyIter x) >>= fun y =>
          runOwn (.compStart (.ListComp elt [⟨t1, i1, [], 0⟩, ⟨t2, i2, [], 0⟩] scope pos) 1 y acc env) env >>= fun _ =>
            again (.compLoop (.ListComp elt [⟨t1, i1, [], 0⟩, ⟨t2, i2, [], 0⟩] scope pos) 0 it acc env))) := by rfl
theorem turn_inner (elt t1 i1 t2 i2 : Expr) (scope : Scope) (pos : Pos) (it acc : Value) (env : Env) :
    compTurn (.ListComp elt [⟨t1, i1, [], 0⟩, ⟨t2, i2, [], 0⟩] scope pos) 1 it acc env = (standAt i2.pos >>= fun _ => pyNext it >>= fun r => match r with
      | none => pure (.done .next)
      | some v => letOwnedTupleGo t2 it v >>= fun _ => assign t2 env v >>= fun _ =>
        (eval elt env >>= fun x => call (.builtin "list.append") [acc, x] >>= fun _ => pure ()) >>= fun _ =>
          again (.compLoop (.ListComp elt [⟨t1, i1, [], 0⟩, ⟨t2, i2, [], 0⟩] scope pos) 1 it acc env)) := by rfl
theorem start_inner (elt t1 i1 t2 i2 : Expr) (scope : Scope) (pos : Pos) (it acc : Value) (env : Env) :
    compStart (.ListComp elt [⟨t1, i1, [], 0⟩, ⟨t2, i2, [], 0⟩] scope pos) 1 it acc env = (ask >>= fun a => if a.params.followText "comprehension-iter-twice" = true then again (.compLoop (.ListComp elt [⟨t1, i1, [], 0⟩, ⟨t2, i2, [], 0⟩] scope pos) 1 it acc env) else
      (rule "comprehension.iter-twice" >>= fun _ => standAt i2.pos >>= fun _ => pyIter it >>= fun it' => again (.compLoop (.ListComp elt [⟨t1, i1, [], 0⟩, ⟨t2, i2, [], 0⟩] scope pos) 1 it' acc env))) := by rfl

abbrev two (elt i1 i2 : Expr) (x1 x2 : Str) (p1 p2 : Pos) (scope : Scope) (pos : Pos) : Expr := .ListComp elt [⟨.Name x1 p1, i1, [], 0⟩, ⟨.Name x2 p2, i2, [], 0⟩] scope pos
section
variable {prog : Program} {w : World} {A : Around} {R : Result → Shared → Prop} {s : Shared} {env : Env} {elt i1 i2 : Expr} {x1 x2 : Str} {p1 p2 pos : Pos} {scope : Scope} {it acc : Value}

theorem loop_outer (I : Nat → Shared → Prop)
    (turn : ∀ n s, I n s → wpAny (model prog w) A (pyNext it) (fun r s₁ => match r with
      | none => R (.ok .next) s₁
      | some v => wpAny (model prog w) A (assign (.Name x1 p1) env v) (fun _ s₂ => wpAny (model prog w) A (eval i2 env) (fun x s₃ => wpAny (model prog w) A (pyIter x) (fun y s₄ =>
          codeAny (model prog w) A (.compStart (two elt i1 i2 x1 x2 p1 p2 scope pos) 1 y acc env) (fun r s₅ => match r with | .ok _ => ∃ m, m < n ∧ I m s₅ | .error _ => False) s₄)
            (fun _ _ => False) s₃) (fun _ _ => False) s₂) (fun _ _ => False) s₁) (fun _ _ => False) s)
    (n : Nat) (h : I n s) (hs : ∀ x, foldedSetIterable i2 env x = pure x := by intro _; rfl) :
    codeAny (model prog w) A (.compLoop (two elt i1 i2 x1 x2 p1 p2 scope pos) 0 it acc env) R s := by
  refine codeAny_loop rfl I (fun n s hI => ?_) n h
  show wpAny _ A ((compTurn (two elt i1 i2 x1 x2 p1 p2 scope pos) 0 it acc env).onRaise (fun x => do noteFrame x env; theTreesLotGoes x)) _ _ s
  refine wpAny_noted ?_
  rw [turn_outer]
  refine wpAny_bind (wpAny_standAt (wpAny_bind (wpAny_mono (turn n s hI) (fun r s₁ h₁ => ?_) fun _ _ h' => h'.elim)))
  cases r with
  | none => exact wpAny_pure h₁
  | some v =>
    refine wpAny_bind (wpAny_pure (wpAny_bind (wpAny_mono h₁ (fun _ s₂ h₂ => ?_) fun _ _ h' => h'.elim)))
    refine wpAny_bind (wpAny_mono h₂ (fun x s₃ h₃ => wpAny_bind (wpAny_standAt (wpAny_bind (wpAny_of_eq (hs x) (wpAny_bind (wpAny_holding (wpAny_mono h₃ (fun y s₄ h₄ => ?_) fun _ _ h' => h'.elim))))))) fun _ _ h' => h'.elim)
    refine wpAny_bind (wpAny_runOwn (codeAny_mono h₄ fun r s₅ h₅ => ?_))
    cases r with
    | ok f => exact wpAny_pure ⟨rfl, h₅⟩
    | error e => exact h₅.elim

theorem loop_inner (I : Nat → Shared → Prop)
    (turn : ∀ n s, I n s → wpAny (model prog w) A (pyNext it) (fun r s₁ => match r with
      | none => R (.ok .next) s₁
      | some v => wpAny (model prog w) A (assign (.Name x2 p2) env v) (fun _ s₂ => wpAny (model prog w) A (eval elt env) (fun x s₃ => wpAny (model prog w) A (call (.builtin "list.append") [acc, x])
            (fun _ s₄ => ∃ m, m < n ∧ I m s₄) (fun _ _ => False) s₃) (fun _ _ => False) s₂) (fun _ _ => False) s₁) (fun _ _ => False) s)
    (n : Nat) (h : I n s) :
    codeAny (model prog w) A (.compLoop (two elt i1 i2 x1 x2 p1 p2 scope pos) 1 it acc env) R s := by
  refine codeAny_loop rfl I (fun n s hI => ?_) n h
  show wpAny _ A ((compTurn (two elt i1 i2 x1 x2 p1 p2 scope pos) 1 it acc env).onRaise (fun x => do noteFrame x env; theTreesLotGoes x)) _ _ s
  refine wpAny_noted ?_
  rw [turn_inner]
  refine wpAny_bind (wpAny_standAt (wpAny_bind (wpAny_mono (turn n s hI) (fun r s₁ h₁ => ?_) fun _ _ h' => h'.elim)))
  cases r with
  | none => exact wpAny_pure h₁
  | some v =>
    refine wpAny_bind (wpAny_pure (wpAny_bind (wpAny_mono h₁ (fun _ s₂ h₂ => ?_) fun _ _ h' => h'.elim)))
    exact wpAny_bind (wpAny_bind (wpAny_mono h₂ (fun x s₃ h₃ => wpAny_bind (wpAny_mono h₃ (fun _ s₄ h₄ => wpAny_pure (wpAny_pure ⟨rfl, h₄⟩)) fun _ _ h' => h'.elim)) fun _ _ h' => h'.elim))

theorem start_in (h0 : codeAny (model prog w) A (.compLoop (two elt i1 i2 x1 x2 p1 p2 scope pos) 1 it acc env) R s)
    (h : wpAny (model prog w) A (pyIter it) (fun it' s' => codeAny (model prog w) A (.compLoop (two elt i1 i2 x1 x2 p1 p2 scope pos) 1 it' acc env) R s') (fun _ _ => False) s) :
    codeAny (model prog w) A (.compStart (two elt i1 i2 x1 x2 p1 p2 scope pos) 1 it acc env) R s := by
  refine codeAny_of_tree ?_
  show wpAny _ _ ((compStart (two elt i1 i2 x1 x2 p1 p2 scope pos) 1 it acc env).onRaise (fun x => do noteFrame x env; standAt theWindowsPlace)) _ _ s
  refine wpAny_notedAt ?_
  rw [start_inner]
  refine wpAny_bind (wpAny_askSetting ?_)
  split
  · exact wpAny_pure ⟨rfl, h0⟩
  · exact wpAny_bind (wpAny_rule (wpAny_bind (wpAny_standAt (wpAny_bind (wpAny_mono h (fun it' s' h' => wpAny_pure ⟨rfl, h'⟩) fun _ _ x => x.elim)))))
end

/-! the element -/
def dg (d : Nat) : Nat := if d < 10 then 48 + d else 87 + d
abbrev hxB : List UInt8 := [48, 49, 50, 51, 52, 53, 54, 55, 56, 57, 97, 98, 99, 100, 101, 102]
theorem hxB_get : ∀ d, d < 16 → ((hxB.getD d 0).toNat : Nat) = dg d := by decide
abbrev hexElt : Expr := .Subscript (.Constant (.bytes hxB) 0 ⟨3, 18, 3, 37⟩)
  (.BinOp (.BinOp (.Name (Str.ofString "octet") ⟨3, 38, 3, 43⟩) .FloorDiv (.BinOp (.Constant (.int 16) 0 ⟨3, 47, 3, 49⟩) .Pow (.Name (Str.ofString "k") ⟨3, 53, 3, 54⟩) ⟨3, 47, 3, 54⟩) ⟨3, 38, 3, 54⟩) .Mod (.Constant (.int 16) 0 ⟨3, 57, 3, 59⟩) ⟨3, 38, 3, 59⟩) ⟨3, 18, 3, 60⟩

section
variable {prog : Program} {w : World} {A : Around} {E : Value → Shared → Prop} {s : Shared} {env : Env} {m : Str → Option Value} {Q : Value → Shared → Prop}
theorem hex_elt {o : Nat} {k : Nat} {t u : Tok} (ho : o < 256) (hk1 : k = 0 ∨ k = 1) (hk : env.scope.kind = .function) (hlo : env.kindOf (Str.ofString "octet") = some .local) (hlk : env.kindOf (Str.ofString "k") = some .local)
    (hn : s.heap.Ns env.locals m) (hmo : m (Str.ofString "octet") = some (.int (o : Int) t)) (hmk : m (Str.ofString "k") = some (.int (k : Int) u))
    (h : ∀ t tk, Q (.int ((dg (if k = 1 then o / 16 else o % 16) : Nat) : Int) t) { s with toks := tk }) :
    wpAny (model prog w) A (eval hexElt env) Q E s := by
  refine Subscript_ ?_
  refine Constant_bytes ?_
  refine wpAny_BinOp ?_
  refine wpAny_BinOp ?_
  refine wpAny_Name (wpAny_loadName_local hk hlo (by exact hn) hmo ?_)
  refine wpAny_BinOp ?_
  refine wpAny_Constant_int ?_
  refine wpAny_Name (wpAny_loadName_local hk hlk (by exact hn) hmk ?_)
  refine pow_int_small (by omega) (by omega) (by decide) ?_
  have hp : (16 : Int) ^ ((k : Int)).toNat = if k = 1 then 16 else 1 := by
    rcases hk1 with rfl | rfl <;> rfl
  rw [hp]
  refine floordiv_int (by split <;> decide) ?_ (Or.inl (PyProof.noPylong_small (by split <;> decide)))
  refine wpAny_Constant_int ?_
  refine mod_int' (by decide) ?_
  have hidx : (((o : Int).fdiv (if k = 1 then 16 else 1)).fmod 16) = (((if k = 1 then o / 16 else o % 16) : Nat) : Int) := by
    rcases hk1 with rfl | rfl
    · rw [if_neg (by decide), if_neg (by decide)]
      rw [Int.fdiv_eq_ediv_of_nonneg _ (by decide), Int.fmod_eq_emod_of_nonneg _ (by decide)]
      omega
    · rw [if_pos rfl, if_pos rfl]
      rw [Int.fdiv_eq_ediv_of_nonneg _ (by decide), Int.fmod_eq_emod_of_nonneg _ (by decide)]
      omega
  rw [hidx]
  have hlt : (if k = 1 then o / 16 else o % 16) < 16 := by split <;> omega
  refine KBy.item_N (x := hxB) (by decide) (by omega) (by show _ < ((16 : Nat) : Int); omega) ?_
  rw [Int.toNat_natCast, hxB_get _ hlt]
  exact h _ _
end
end Mine
end

section
open PySem PySem.W PyProof.Rows PySem.Calls
namespace Mine
open PySem.Builtin

def hex2 (c : UInt8) : List Int := [((dg (c.toNat / 16) : Nat) : Int), ((dg (c.toNat % 16) : Nat) : Int)]
def hexInts (l : List UInt8) : List Int := l.flatMap hex2
theorem hexInts_snoc {l : List UInt8} {i : Nat} {c : UInt8} (h : l[i]? = some c) : hexInts (l.take (i + 1)) = hexInts (l.take i) ++ hex2 c := by
  rw [List.take_add_one, h]; simp [hexInts]
theorem hexInts_length (l : List UInt8) : (hexInts l).length = 2 * l.length := by
  induction l with
  | nil => rfl
  | cons c r ih => simp only [hexInts, List.flatMap_cons, List.length_append, List.length_cons] at *; rw [ih]; simp [hex2]; omega

abbrev hexScope : Scope := { kind := .function, names := [(Str.ofString ".0", .local), (Str.ofString "octet", .local), (Str.ofString "k", .local)], isGenerator := false, isCoroutine := false, more := [] }
abbrev hexI2 : Expr := .Tuple [.Constant (.int 1) 0 ⟨3, 89, 3, 90⟩, .Constant (.int 0) 0 ⟨3, 92, 3, 93⟩] 0 ⟨3, 88, 3, 94⟩
abbrev hexI1 : Expr := .Name (Str.ofString "data") ⟨3, 74, 3, 78⟩
abbrev hexComp : Expr := two hexElt hexI1 hexI2 (Str.ofString "octet") (Str.ofString "k") ⟨3, 65, 3, 70⟩ ⟨3, 83, 3, 84⟩ hexScope ⟨3, 17, 3, 95⟩

section
variable {prog : Program} {w : World} {A : Around} {E : Value → Shared → Prop} {s : Shared} {env : Env} {m : Str → Option Value} {Q : Value → Shared → Prop}

theorem comp_hex {row : Array UInt8} {tb : Tok} (hh : A.handled = none) (hk : env.scope.kind = .function) (hl : env.kindOf (Str.ofString "data") = some .local) (hn : s.heap.Ns env.locals m)
    (hm : m (Str.ofString "data") = some (.bytes row tb)) (hz : 2 * row.size ≤ sizeLine)
    (hQ : ∀ D h' tk vs, h'.IsList D vs.toArray → IntsAre vs (hexInts row.toList) → (∀ b o, s.heap.get? b = some o → h'.get? b = some o) → Q (.ref D) { s with heap := h', toks := tk }) :
    wpAny (model prog w) A (eval hexComp env) Q E s := by
  refine wpAny_ListComp (by decide) rfl (by decide) ?_ (by intro _; rfl)
  refine wpAny_Name (wpAny_loadName_local hk hl hn hm ?_)
  refine KBw.pyIter_bytes ?_
  refine wpAny_newObj_type (hd := by size_fits) (wpAny_newFunctionEnv (by decide) (by intro y hy; simp at hy) (fun h₁ hns₁ hsb₁ => ?_) rfl)
  dsimp only at hns₁ hsb₁ ⊢
  generalize hH1 : s.heap.push { cls := .type "bytes_iterator", data := .fields #[.bytes row tb, .int 0 0] } = H1 at hns₁ hsb₁ ⊢
  have hI1 : KBw.IsBytesIter H1 s.heap.objs.size row tb 0 := ⟨_, hH1 ▸ Heap.get?_push_size _ rfl, rfl, rfl⟩
  have k1 : ∀ b o, s.heap.get? b = some o → H1.get? b = some o := fun b o e => hH1 ▸ Heap.get?_push_of_some _ e
  have z1 : H1.objs.size = s.heap.objs.size + 1 := by rw [← hH1, Heap.size_push]
  generalize hH2 : H1.push { cls := .type "list", dict := none, data := .seq ([] : List Value).toArray } = H2 at hns₁ hsb₁ ⊢
  have hD2 : H2.IsList H1.objs.size ([] : List Value).toArray := ⟨_, hH2 ▸ Heap.get?_push_size _ rfl, rfl, _, rfl⟩
  have k2 : ∀ b o, H1.get? b = some o → H2.get? b = some o := fun b o e => hH2 ▸ Heap.get?_push_of_some _ e
  have z2 : H2.objs.size = s.heap.objs.size + 2 := by rw [← hH2, Heap.size_push, z1]
  have up : ∀ b o, b < H2.objs.size → H2.get? b = some o → h₁.get? b = some o := fun b o hb e => hsb₁.extBut b o (Nat.ne_of_lt hb) (Heap.get?_push_of_some _ e)
  have lt : ∀ b o, s.heap.get? b = some o → b < s.heap.objs.size := fun b o e => Heap.lt_size e
  have hIC : s.heap.objs.size ≠ H2.objs.size := by rw [z2]; exact Nat.ne_of_lt (Nat.lt_succ_of_lt (Nat.lt_succ_self _))
  have hID : s.heap.objs.size ≠ H1.objs.size := by rw [z1]; exact Nat.ne_of_lt (Nat.lt_succ_self _)
  have hDC : H1.objs.size ≠ H2.objs.size := by rw [z1, z2]; exact Nat.ne_of_lt (Nat.lt_succ_self _)
  have oldI : ∀ b o, s.heap.get? b = some o → b ≠ s.heap.objs.size := fun b o e => Nat.ne_of_lt (lt b o e)
  have oldD : ∀ b o, s.heap.get? b = some o → b ≠ H1.objs.size := fun b o e => by rw [z1]; exact Nat.ne_of_lt (Nat.lt_succ_of_lt (lt b o e))
  have oldC : ∀ b o, s.heap.get? b = some o → b ≠ H2.objs.size := fun b o e => by rw [z2]; exact Nat.ne_of_lt (Nat.lt_succ_of_lt (Nat.lt_succ_of_lt (lt b o e)))
  have itAt : ∀ {h h' : Heap} {i : Nat}, KBw.IsBytesIter h s.heap.objs.size row tb i → (∀ o, h.get? s.heap.objs.size = some o → h'.get? s.heap.objs.size = some o) → KBw.IsBytesIter h' s.heap.objs.size row tb i := fun y e => let ⟨o, ho, r⟩ := y; ⟨o, e o ho, r⟩
  have lsAt : ∀ {h h' : Heap} {vs : List Value}, h.IsList H1.objs.size vs.toArray → (∀ o, h.get? H1.objs.size = some o → h'.get? H1.objs.size = some o) → h'.IsList H1.objs.size vs.toArray := fun y e => let ⟨o, ho, r⟩ := y; ⟨o, e o ho, r⟩
  have hI3 : KBw.IsBytesIter h₁ s.heap.objs.size row tb 0 := itAt (itAt hI1 fun o e => k2 _ o e) fun o e => up _ o (by rw [z2]; exact Nat.lt_succ_of_lt (Nat.lt_succ_self _)) e
  have hD3 : h₁.IsList H1.objs.size ([] : List Value).toArray := lsAt hD2 fun o e => up _ o (by rw [z1, z2]; exact Nat.lt_succ_self _) e
  have keep3 : ∀ b o, s.heap.get? b = some o → h₁.get? b = some o := fun b o e => up b o (by rw [z2]; exact Nat.lt_succ_of_lt (Nat.lt_succ_of_lt (lt b o e))) (k2 b o (k1 b o e))
  have loop : ∀ s₃ : Shared, s₃ = { s with heap := h₁, toks := s.toks + ([] : List (Str × Value)).length } →
      codeAny (model prog w) A (.compLoop hexComp 0 (.ref s.heap.objs.size) (.ref H1.objs.size) (compEnv hexScope H2.objs.size env))
        (fun r s' => ∃ m, s'.heap.Ns H2.objs.size m ∧ ∀ h', Heap.SameBut H2.objs.size s'.heap h' →
          match r with | .ok _ => Q (.ref H1.objs.size) { s' with heap := h' } | .error x => wpAny (model prog w) A (PySem.passOn "comprehension.variables-let-go" x (compEnv hexScope H2.objs.size env)) Q E { s' with heap := h' }) s₃ := by
    rintro s₃ rfl
    refine loop_outer
      (fun n s' => ∃ h' tk i vs m', s' = { s with heap := h', toks := tk } ∧ i ≤ row.size ∧ n = row.size + 1 - i ∧ KBw.IsBytesIter h' s.heap.objs.size row tb i ∧ h'.IsList H1.objs.size vs.toArray ∧ IntsAre vs (hexInts (row.toList.take i)) ∧ h'.Ns H2.objs.size m' ∧
        (∀ b o, s.heap.get? b = some o → h'.get? b = some o))
      ?_ (row.size + 1) ⟨h₁, _, 0, [], _, rfl, Nat.zero_le _, rfl, hI3, hD3, .nil, hns₁, keep3⟩
    rintro n s' ⟨h', tk', i, vs, m', rfl, hi, rfl, hit, hl', hI', hn', hkp⟩
    by_cases hend : i = row.size
    · refine KBw.next_end hh hit (by rw [hend]; exact Array.getElem?_eq_none (Nat.le_refl _)) fun h₂ hk₂ => ?_
      refine ⟨m', hn'.at' fun o e => hk₂ _ o hIC.symm e, fun h₃ hs₃ => ?_⟩
      refine hQ _ h₃ tk' vs (lsAt hl' fun o e => hs₃.extBut _ o hDC (hk₂ _ o hID.symm e)) (by rw [hend, ← Array.length_toList, List.take_length] at hI'; exact hI') fun b o e => hs₃.extBut b o (oldC b o e) (hk₂ b o (oldI b o e) (hkp b o e))
    · have hlt : i < row.size := by omega
      obtain ⟨c, hc⟩ : ∃ c, row[i]? = some c := ⟨_, Array.getElem?_eq_getElem hlt⟩
      have hcl : row.toList[i]? = some c := by simpa using hc
      refine KBw.next_item hit hc fun h₂ hit₂ hs₂ => ?_
      refine wpAny_assign_Name (wpAny_storeName_local (env := compEnv hexScope H2.objs.size env) rfl (hn'.at' fun o e => hs₂.extBut _ o hIC.symm e) (fun h₃ hn₃ hs₃ => ?_) rfl)
      have hit₃ := itAt hit₂ fun o e => hs₃.extBut _ o hIC e
      have hl₃ : h₃.IsList H1.objs.size vs.toArray := lsAt hl' fun o e => hs₃.extBut _ o hDC (hs₂.extBut _ o hID.symm e)
      have hkp₃ : ∀ b o, s.heap.get? b = some o → h₃.get? b = some o := fun b o e => hs₃.extBut b o (oldC b o e) (hs₂.extBut b o (oldI b o e) (hkp b o e))
      refine Tuple_ ?_
      refine spliced_more ?_
      refine wpAny_Constant_int ?_
      refine spliced_more ?_
      refine wpAny_Constant_int ?_
      refine spliced_nil ?_
      refine wpAny_newTuple ?_
      dsimp only
      generalize hH4 : h₃.push { cls := .type "tuple", data := .seq [Value.int 1 _, Value.int 0 _].toArray } = H4
      have hT4 : H4.IsTuple h₃.objs.size [Value.int 1 _, Value.int 0 _].toArray := ⟨_, hH4 ▸ Heap.get?_push_size _ rfl, rfl, _, rfl⟩
      have z4 : H4.objs.size = h₃.objs.size + 1 := by rw [← hH4, Heap.size_push]
      refine wpAny_pyIter_tuple hT4 ?_
      dsimp only
      generalize hH5 : H4.push { cls := .type "tuple_iterator", data := .fields #[.ref h₃.objs.size, .int 0 0] } = H5
      have hJ5 : H5.IsTupleIter H4.objs.size h₃.objs.size 0 := ⟨_, hH5 ▸ Heap.get?_push_size _ rfl, rfl, rfl⟩
      have up5 : ∀ b o, h₃.get? b = some o → H5.get? b = some o := fun b o e => hH5 ▸ Heap.get?_push_of_some _ (hH4 ▸ Heap.get?_push_of_some _ e)
      obtain ⟨ta, tb', hT5⟩ : ∃ a b, H5.IsTuple h₃.objs.size [Value.int 1 a, Value.int 0 b].toArray := let ⟨o, ho, r⟩ := hT4; ⟨_, _, o, hH5 ▸ Heap.get?_push_of_some _ ho, r⟩
      have lt3 : ∀ b o, h₃.get? b = some o → b ≠ h₃.objs.size ∧ b ≠ H4.objs.size := fun b o e => ⟨Nat.ne_of_lt (Heap.lt_size e), by rw [z4]; exact Nat.ne_of_lt (Nat.lt_succ_of_lt (Heap.lt_size e))⟩
      have hTJ : h₃.objs.size ≠ H4.objs.size := by rw [z4]; exact Nat.ne_of_lt (Nat.lt_succ_self _)
      have nI : s.heap.objs.size ≠ h₃.objs.size ∧ s.heap.objs.size ≠ H4.objs.size := let ⟨o, ho, _⟩ := hit₃; lt3 _ o ho
      have nD : H1.objs.size ≠ h₃.objs.size ∧ H1.objs.size ≠ H4.objs.size := let ⟨o, ho, _⟩ := hl₃; lt3 _ o ho
      have nC : H2.objs.size ≠ h₃.objs.size ∧ H2.objs.size ≠ H4.objs.size := let ⟨o, _, _, ho, _⟩ := hn₃; lt3 _ o ho
      have inner : ∀ tk₅ : Nat,
          codeAny (model prog w) A (.compLoop hexComp 1 (.ref H4.objs.size) (.ref H1.objs.size) (compEnv hexScope H2.objs.size env))
            (fun r s₅ => match r with | .ok _ => ∃ mm, mm < row.size + 1 - i ∧ ∃ h' tk i vs m', s₅ = { s with heap := h', toks := tk } ∧ i ≤ row.size ∧ mm = row.size + 1 - i ∧ KBw.IsBytesIter h' s.heap.objs.size row tb i ∧ h'.IsList H1.objs.size vs.toArray ∧ IntsAre vs (hexInts (row.toList.take i)) ∧ h'.Ns H2.objs.size m' ∧
              (∀ b o, s.heap.get? b = some o → h'.get? b = some o) | .error _ => False) { s with heap := H5, toks := tk₅ } := by
        intro tk₅
        refine loop_inner
          (fun n s' => ∃ h' tk j vs m', s' = { s with heap := h', toks := tk } ∧ j ≤ 2 ∧ n = 3 - j ∧ h'.IsTupleIter H4.objs.size h₃.objs.size j ∧ h'.IsTuple h₃.objs.size [Value.int 1 ta, Value.int 0 tb'].toArray ∧
            KBw.IsBytesIter h' s.heap.objs.size row tb (i + 1) ∧ h'.IsList H1.objs.size vs.toArray ∧ IntsAre vs (hexInts (row.toList.take i) ++ (hex2 c).take j) ∧ h'.Ns H2.objs.size m' ∧ m' (Str.ofString "octet") = some (.int (c.toNat : Int) tk') ∧
            (∀ b o, s.heap.get? b = some o → h'.get? b = some o)) ?_ 3 ⟨H5, _, 0, vs, _, rfl, by omega, rfl, hJ5, hT5, itAt hit₃ fun o e => up5 _ o e, lsAt hl₃ fun o e => up5 _ o e, by simpa using hI', hn₃.at' fun o e => up5 _ o e, rfl, fun b o e => up5 b o (hkp₃ b o e)⟩
        rintro n' s' ⟨h₆, tk₆, j, vs₆, m₆, rfl, hj, rfl, hJ₆, hT₆, hit₆, hl₆, hI₆, hn₆, hm₆, hkp₆⟩
        by_cases hj2 : j = 2
        · subst hj2
          refine wpAny_pyNext_tuple_end hh hJ₆ hT₆ rfl fun h₇ hk₇ => ?_
          refine ⟨row.size + 1 - (i + 1), by omega, h₇, tk₆, i + 1, vs₆, m₆, rfl, by omega, rfl, itAt hit₆ fun o e => hk₇ _ o nI.2 e, lsAt hl₆ fun o e => hk₇ _ o nD.2 e, ?_, hn₆.at' fun o e => hk₇ _ o nC.2 e, fun b o e => hk₇ b o (lt3 b o (hkp₃ b o e)).2 (hkp₆ b o e)⟩
          rw [hexInts_snoc hcl]
          exact hI₆
        · obtain ⟨kk, hk01, hx⟩ : ∃ kk : Nat, (kk = 0 ∨ kk = 1) ∧ (∃ u, ([Value.int 1 ta, Value.int 0 tb'].toArray)[j]? = some (.int (kk : Int) u)) ∧ (hex2 c)[j]? = some (((dg (if kk = 1 then c.toNat / 16 else c.toNat % 16)) : Nat) : Int) := by
            have : j = 0 ∨ j = 1 := by omega
            rcases this with rfl | rfl
            · exact ⟨1, .inr rfl, ⟨_, rfl⟩, rfl⟩
            · exact ⟨0, .inl rfl, ⟨_, rfl⟩, rfl⟩
          obtain ⟨⟨u, hx⟩, hy⟩ := hx
          refine wpAny_pyNext_tuple_item hJ₆ hT₆ hx fun h₇ hJ₇ hs₇ => ?_
          refine wpAny_assign_Name (wpAny_storeName_local (env := compEnv hexScope H2.objs.size env) rfl (hn₆.at' fun o e => hs₇.extBut _ o nC.2 e) (fun h₈ hn₈ hs₈ => ?_) rfl)
          refine hex_elt (o := c.toNat) (k := kk) c.toNat_lt hk01 rfl rfl rfl (by exact hn₈) (by show (if _ then _ else _) = _; rw [if_neg (by decide)]; exact hm₆) (by rfl) fun t tk₈ => ?_
          have hl₈ : h₈.IsList H1.objs.size vs₆.toArray := lsAt hl₆ fun o e => hs₈.extBut _ o hDC (hs₇.extBut _ o nD.2 e)
          have hvl : vs₆.length ≤ sizeLine := by
            rw [hI₆.length, List.length_append, hexInts_length, List.length_take, List.length_take, Array.length_toList]
            omega
          refine wpAny_list_append (hsz := by rw [List.size_toArray]; exact hvl) hl₈ fun h₉ hl₉ hs₉ => ?_
          rw [List.push_toArray] at hl₉
          refine ⟨3 - (j + 1), by omega, h₉, tk₈, j + 1, _, _, rfl, by omega, rfl, ?_, ?_, ?_, hl₉, ?_, hn₈.at' fun o e => hs₉.extBut _ o hDC.symm e, ?_, ?_⟩
          · exact (hJ₇.extBut hs₈.extBut nC.2.symm).extBut hs₉.extBut nD.2.symm
          · exact ((hT₆.extBut hs₇.extBut hTJ).extBut hs₈.extBut nC.1.symm).extBut hs₉.extBut nD.1.symm
          · exact itAt (itAt (itAt hit₆ fun o e => hs₇.extBut _ o nI.2 e) fun o e => hs₈.extBut _ o hIC e) fun o e => hs₉.extBut _ o hID e
          · rw [List.take_add_one, hy]
            have := hI₆.append (.cons (((dg (if kk = 1 then c.toNat / 16 else c.toNat % 16)) : Nat) : Int) t .nil)
            simpa [List.append_assoc] using this
          · show (if _ then _ else _) = _
            rw [if_neg (by decide)]
            exact hm₆
          · exact fun b o e => hs₉.extBut b o (oldD b o e) (hs₈.extBut b o (oldC b o e) (hs₇.extBut b o (lt3 b o (hkp₃ b o e)).2 (hkp₆ b o e)))
      exact start_in (inner _) (wpAny_pyIter_tupleiter hJ5 (inner _))
  exact codeAny_compStart_list (loop _ rfl) (KBw.pyIter_self hI3 (loop _ rfl))
end
end Mine
end

section
open PySem PySem.W PyProof.Rows PySem.Calls
namespace Mine
open PySem.Builtin

/-! ### the law's text, plainly -/
def dG (d : Nat) : Nat := if d < 10 then 48 + d else 55 + d
def sg (turn : Int) (r d : Nat) : Nat := if (turn.fdiv ((2 : Int) ^ (r % 40))).fmod 2 = 1 then dG d else dg d
def lawL (turn : Int) : Nat → List UInt8 → List Nat
  | _, [] => []
  | p, c :: r => sg turn (2 * p) (c.toNat / 16) :: sg turn (2 * p + 1) (c.toNat % 16) :: lawL turn (p + 1) r
def lawText (row : Array UInt8) (turn : Int) : Str := ⟨(lawL turn 0 row.toList).toArray⟩

theorem lawL_length (turn : Int) : ∀ (l : List UInt8) (p : Nat), (lawL turn p l).length = 2 * l.length
  | [], _ => rfl
  | c :: r, p => by simp only [lawL, List.length_cons, lawL_length turn r]; omega
theorem lawL_snoc (turn : Int) (c : UInt8) : ∀ (l : List UInt8) (p : Nat), lawL turn p (l ++ [c]) = lawL turn p l ++ [sg turn (2 * (p + l.length)) (c.toNat / 16), sg turn (2 * (p + l.length) + 1) (c.toNat % 16)]
  | [], p => by simp [lawL]
  | d :: r, p => by
    rw [List.cons_append, lawL, lawL, lawL_snoc turn c r (p + 1), List.length_cons, show p + 1 + r.length = p + (r.length + 1) by omega]
    rfl
theorem lawL_even (turn : Int) : ∀ (l : List UInt8) (p i : Nat) (c : UInt8), l[i]? = some c → (lawL turn p l)[2 * i + 0]? = some (sg turn (2 * (p + i)) (c.toNat / 16))
  | [], _, _, _, h => by simp at h
  | d :: r, p, 0, c, h => by simp at h; subst h; rfl
  | d :: r, p, i + 1, c, h => by
    have := lawL_even turn r (p + 1) i c (by simpa using h)
    have this' : (lawL turn (p + 1) r)[2 * i]? = some (sg turn (2 * (p + 1 + i)) (c.toNat / 16)) := this
    show (lawL turn p (d :: r))[2 * (i + 1)]? = _
    rw [lawL, show 2 * (i + 1) = (2 * i) + 1 + 1 by omega, List.getElem?_cons_succ, List.getElem?_cons_succ, this', show p + 1 + i = p + (i + 1) by omega]
theorem lawL_odd (turn : Int) : ∀ (l : List UInt8) (p i : Nat) (c : UInt8), l[i]? = some c → (lawL turn p l)[2 * i + 1]? = some (sg turn (2 * (p + i) + 1) (c.toNat % 16))
  | [], _, _, _, h => by simp at h
  | d :: r, p, 0, c, h => by simp at h; subst h; rfl
  | d :: r, p, i + 1, c, h => by
    have := lawL_odd turn r (p + 1) i c (by simpa using h)
    rw [lawL, show 2 * (i + 1) + 1 = (2 * i + 1) + 1 + 1 by omega, List.getElem?_cons_succ, List.getElem?_cons_succ, this, show p + 1 + i = p + (i + 1) by omega]
theorem dg_lt {d : Nat} (h : d < 16) : dg d < 128 := by unfold dg; split <;> omega
theorem dG_lt {d : Nat} (h : d < 16) : dG d < 128 := by unfold dG; split <;> omega
theorem sg_lt {turn : Int} {r d : Nat} (h : d < 16) : sg turn r d < 128 := by
  unfold sg; split
  · exact dG_lt h
  · exact dg_lt h
theorem lo_dg : ∀ d, d < 16 → lo1 (dg d) = dg d := by decide
theorem lo_dG : ∀ d, d < 16 → lo1 (dG d) = dg d := by decide
theorem hv_dg : ∀ d, d < 16 → hv (dg d) = some d := by decide
theorem hv_sg {turn : Int} {r d : Nat} (h : d < 16) : hv (lo1 (sg turn r d)) = some d := by
  unfold sg; split
  · rw [lo_dG d h, hv_dg d h]
  · rw [lo_dg d h, hv_dg d h]
theorem c16 (c : UInt8) : c.toNat / 16 < 16 := by have := c.toNat_lt; omega
theorem lawL_asc (turn : Int) : ∀ (l : List UInt8) (p : Nat), ∀ x ∈ lawL turn p l, x < 128
  | [], _, x, h => by simp [lawL] at h
  | c :: r, p, x, h => by
    rw [lawL] at h
    rcases List.mem_cons.mp h with rfl | h
    · exact sg_lt (c16 c)
    · rcases List.mem_cons.mp h with rfl | h
      · exact sg_lt (by omega)
      · exact lawL_asc turn r (p + 1) x h
theorem lawText_asc (row : Array UInt8) (turn : Int) : Asc (lawText row turn) := fun c hc => lawL_asc turn _ _ c (by simpa [lawText] using hc)
theorem lawText_length (row : Array UInt8) (turn : Int) : (lawText row turn).length = 2 * row.size := by
  show (lawL turn 0 row.toList).toArray.size = _
  rw [List.size_toArray, lawL_length, Array.length_toList]
theorem getD_of {l : List Nat} {i v : Nat} (h : l[i]? = some v) : l.toArray.getD i 0 = v := by
  have hi : i < l.length := by
    rcases Nat.lt_or_ge i l.length with q | q
    · exact q
    · rw [List.getElem?_eq_none q] at h; cases h
  have : l[i] = v := by rw [List.getElem?_eq_getElem hi] at h; exact Option.some.inj h
  simp [Array.getD, hi, this]
theorem row_at {row : Array UInt8} {i : Nat} (h : i < row.size) : row.toList[i]? = some (row.getD i 0) := by
  simp [Array.getD, h]
theorem good_law (row : Array UInt8) (turn : Int) : GoodT (low (lawText row turn)) row where
  asc := low_asc (lawText_asc row turn)
  len := by rw [low_length, lawText_length]
  hi := fun i hi => by
    rw [low_getD _ (by rw [lawText_length]; omega)]
    have := lawL_even turn row.toList 0 i _ (row_at hi)
    show hv (lo1 ((lawL turn 0 row.toList).toArray.getD (2 * i + 0) 0)) = _
    rw [getD_of this]
    exact hv_sg (c16 _)
  lo := fun i hi => by
    rw [low_getD _ (by rw [lawText_length]; omega)]
    have := lawL_odd turn row.toList 0 i _ (row_at hi)
    show hv (lo1 ((lawL turn 0 row.toList).toArray.getD (2 * i + 1) 0)) = _
    rw [getD_of this]
    exact hv_sg (by omega)

theorem sg_zero (r d : Nat) : sg 0 r d = dg d := by
  unfold sg
  rw [Int.zero_fdiv]
  rfl
theorem lawL_zero : ∀ (l : List UInt8) (p : Nat), lawL 0 p l = (hexInts l).map Int.toNat
  | [], _ => rfl
  | c :: r, p => by
    rw [lawL, sg_zero, sg_zero, lawL_zero r (p + 1)]
    simp [hexInts, hex2]
theorem enc_law0 (row : Array UInt8) : ((hexInts row.toList).map fun n => n.toNat.toUInt8).toArray = enc (lawText row 0) := by
  apply Array.toList_inj.mp
  show _ = ((lawL 0 0 row.toList).toArray.map fun c => c.toUInt8).toList
  rw [lawL_zero]
  simp
theorem hexInts_in {l : List UInt8} {n : Int} (h : n ∈ hexInts l) : 0 ≤ n ∧ n < 256 := by
  simp only [hexInts, List.mem_flatMap] at h
  obtain ⟨c, _, h⟩ := h
  have h1 := dg_lt (c16 c)
  have h2 : dg (c.toNat % 16) < 128 := dg_lt (by omega)
  simp only [hex2, List.mem_cons, List.not_mem_nil, or_false] at h
  rcases h with rfl | rfl <;> omega

/-! a foreign sign put into a text -/
def frn (i : Nat) : Nat := [103, 71, 32, 45, 120, 47, 58].getD i 0
theorem frn_bad : ∀ i, i < 7 → hv (lo1 (frn i)) = none ∧ frn i < 128 := by decide
end Mine
end

section
open PySem PySem.W PyProof.Rows
namespace Mine
section
variable {prog : Program} {w : World} {A : Around} {E : Value → Shared → Prop} {s : Shared} {g : Heap} {L a : Addr} {m : Str → Option Value} {name : Str} {scope : Scope} {cd : Value} {news : List (Addr × Obj)} {Q : Value → Shared → Prop}
theorem comp_hexK {row : Array UInt8} {tb : Tok} (F : Fr g L s.heap m) (N : News g L s.heap news) (hz : 2 * row.size ≤ sizeLine) (hm : m (Str.ofString "data") = some (.bytes row tb)) (hh : A.handled = none) (hk : scope.kind = .function)
    (hl : (envOf name scope L a cd).kindOf (Str.ofString "data") = some .local)
    (h : ∀ D h' tk vs, Fr g L h' m → News g L h' news → h'.IsList D vs.toArray → IntsAre vs (hexInts row.toList) → Q (.ref D) { s with heap := h', toks := tk }) :
    wpAny (model prog w) A (eval hexComp (envOf name scope L a cd)) Q E s :=
  comp_hex hh hk hl F.ns hm hz fun D h' tk vs hD hI hk' => h D h' tk vs (F.keeps hk') (fun q hq => ⟨hk' _ _ (N q hq).1, (N q hq).2⟩) hD hI
theorem bytes_hex {l : Addr} {vs : List Value} {row : Array UInt8} (F : Fr g L s.heap m) (N : News g L s.heap news) (hl : s.heap.IsList l vs.toArray) (hi : IntsAre vs (hexInts row.toList)) (hz : 2 * row.size ≤ sizeLine) (hh : A.handled = none)
    (h : ∀ h' t k, Fr g L h' m → News g L h' news → Q (.bytes (enc (lawText row 0)) t) { s with heap := h', toks := k }) : wpAny (model prog w) A (call (.type "bytes") [.ref l]) Q E s := by
  refine bytes_K F N hl hi (fun n hn => hexInts_in hn) (by rw [hi.length, hexInts_length, Array.length_toList]; exact hz) hh fun h' t k F' N' _ => ?_
  rw [enc_law0]
  exact h h' t k F' N'
end
local macro_rules | `(tactic| walk_at "mine pad B13 0") => `(tactic| skip)
local macro_rules | `(tactic| walk_at "mine pad B13 1") => `(tactic| skip)
local macro_rules | `(tactic| walk_at "eval ListComp") => `(tactic| (k_dflt (refine' comp_hexK ?F ?N ?z ?m ?h ?k ?l ?_; (case F => assumption); (case N => assumption); (case z => assumption); (case m => with_unfolding_all rfl); (case h => rfl); (case k => rfl); (case l => rfl)); intro D9 h9 tk9 vs9 F9 N9 hD9 hI9))
local macro_rules | `(tactic| walk_at "call type:bytes") => `(tactic| (refine bytes_hex (by assumption) (by assumption) (by assumption) (by assumption) (by assumption) (by rfl) ?_; intro h8 t8 k8 F8 N8))

theorem hex_call (w : World) (mean : ExcName → Option Value) (mg mb : Str → Option Value) (news : List (Addr × Obj)) (t : Tok) (row : Array UInt8) (hz : 2 * row.size ≤ sizeLine) :
    Clm w mean mg mb 19 news [.bytes row t] (fun t => .bytes (enc (lawText row 0)) t) := by
  unfold Clm
  k_fill
  intros
  rename_i hret
  refine wpAny_call ?_
  k_dflt cell_enter
  repeat' (first | (k_unfold; (try dsimp only)) | walk1 | (dsimp only; walk1) | fail "no step")
  all_goals exact hret _ _ _ (by assumption) (by assumption)
end Mine
end

section
open PySem PySem.W PyProof.Rows PySem.Calls
namespace Mine
open PySem.Builtin

/-! ### enumerate over bytes -/
section
variable {prog : Program} {w : World} {A : Around} {E : Value → Shared → Prop} {s : Shared} {b : Array UInt8} {t : Tok}
theorem nextOf_bytes_item {it : Addr} {i : Nat} {c : UInt8} {Q : Value → Shared → Prop} (hit : KBw.IsBytesIter s.heap it b t i) (hx : b[i]? = some c)
    (hQ : ∀ h', KBw.IsBytesIter h' it b t (i + 1) → Heap.SameBut it s.heap h' → Q (.int (c.toNat : Int) s.toks) { s with heap := h', toks := s.toks + 1 }) : wpAny (model prog w) A (SmallTypes.nextOf (.ref it)) Q E s := by
  obtain ⟨o, ho, hc, hd⟩ := id hit
  unfold SmallTypes.nextOf
  refine wpAny_bind (wpAny_callSpecial?_slot (name := Str.ofString "__next__") (KBw.iter_typeIs hit) KBw.slot_next
    (wpAny_call_entry KBw.slot_next (KBw.iter_typeIs hit) KBw.entry_next ?_ (KBw.args_next _)))
  show wpAny _ _ (field (.ref it) 0 >>= _) _ _ s
  refine wpAny_bind (wpAny_field ho hd (x := .bytes b t) rfl ?_)
  show wpAny _ _ (if (Value.bytes b t == Value.none) = true then _ else _) _ _ s
  rw [if_neg (show ¬ ((Value.bytes b t == Value.none) = true) from Bool.false_ne_true)]
  show wpAny _ _ (field (.ref it) 1 >>= _) _ _ s
  refine wpAny_bind (wpAny_field ho hd (x := .int i 0) rfl ?_)
  refine wpAny_bind (wpAny_of_eq (a := b) rfl ?_)
  simp only [Int.toNat_natCast, hx]
  refine wpAny_bind (wpAny_setField ho hd (by simp) (wpAny_bind (wpAny_mkInt (wpAny_pure ⟨_, rfl, wpAny_pure (hQ _ ?_ (Heap.SameBut.update ..))⟩))))
  exact ⟨_, Heap.get?_update_self _ ho (Obj.isFreed_of_fields (Obj.data_mapFields hd _)), (Obj.cls_mapFields ..).trans hc, by
    rw [Obj.data_mapFields hd]; simp [rawInt]⟩

theorem nextOf_bytes_end {it : Addr} {i : Nat} {Q : Value → Shared → Prop} (hh : A.handled = none) (hit : KBw.IsBytesIter s.heap it b t i) (hx : b[i]? = none)
    (hE : ∀ h' e, Heap.ExtBut it s.heap h' → (∃ o, h'.get? e = some o ∧ o.cls = .type "StopIteration") → E (.ref e) { s with heap := h' }) : wpAny (model prog w) A (SmallTypes.nextOf (.ref it)) Q E s := by
  obtain ⟨o, ho, hc, hd⟩ := id hit
  unfold SmallTypes.nextOf
  refine wpAny_bind (wpAny_callSpecial?_slot (name := Str.ofString "__next__") (KBw.iter_typeIs hit) KBw.slot_next
    (wpAny_call_entry KBw.slot_next (KBw.iter_typeIs hit) KBw.entry_next ?_ (KBw.args_next _)))
  show wpAny _ _ (field (.ref it) 0 >>= _) _ _ s
  refine wpAny_bind (wpAny_field ho hd (x := .bytes b t) rfl ?_)
  show wpAny _ _ (if (Value.bytes b t == Value.none) = true then _ else _) _ _ s
  rw [if_neg (show ¬ ((Value.bytes b t == Value.none) = true) from Bool.false_ne_true)]
  show wpAny _ _ (field (.ref it) 1 >>= _) _ _ s
  refine wpAny_bind (wpAny_field ho hd (x := .int i 0) rfl ?_)
  refine wpAny_bind (wpAny_of_eq (a := b) rfl ?_)
  simp only [Int.toNat_natCast, hx]
  refine wpAny_bind (wpAny_rule (wpAny_bind (wpAny_setField ho hd (by simp) ?_)))
  show wpAny _ _ (newExc (.type "StopIteration") [] >>= _) _ _ _
  refine wpAny_bind ?_
  simp only [newExc, newTuple]
  refine wpAny_bind (wpAny_newObj_type ?_ (by size_fits))
  refine wpAny_bind (m := firstArgMember _ _) (wpAny_of_eq (a := Value.none) (by first | rfl | (simp only [firstArgMember]; rfl)) ?_)
  refine wpAny_newObj_type ?_ (by size_fits)
  simp only [raiseNew]
  refine wpAny_bind (wpAny_handled ?_)
  first | rw [show A.in1.handled = none from hh] | rw [hh]
  refine wpAny_bind (wpAny_pure (wpAny_throw ?_))
  exact hE _ _ (((Heap.SameBut.update ..).extBut.push _).push _) ⟨_, Heap.get?_push_size _ rfl, rfl⟩
end

theorem drawsB {prog : Program} {w : World} {A : Around} (hh : A.handled = none) (it : Addr) (b : Array UInt8) (t : Tok) :
    Draws prog w A it [it] b.size (fun i v => ∃ c u, b[i]? = some c ∧ v = .int (c.toNat : Int) u) (fun i h => KBw.IsBytesIter h it b t i) where
  live := fun i h st => let ⟨o, ho, _⟩ := st; ⟨o, ho⟩
  frame := fun i h h' st hk => let ⟨o, ho, r⟩ := st; ⟨o, hk it (by simp) o ho, r⟩
  item := fun i s Q E hi st hQ => nextOf_bytes_item st (c := b[i]) (by simp [hi]) fun h' hit' hs' => hQ _ h' (s.toks + 1) ⟨_, _, by simp [hi], rfl⟩ hit' hs'
  done := fun s Q E st hE => nextOf_bytes_end hh st (by simp) fun h' e he ho => hE h' e he ho

set_option maxHeartbeats 1000000 in
theorem meets_enumB (b : Array UInt8) (t : Tok) :
    Meets (Builtin.«enumerate.__new__» ⟨[.type "enumerate", .bytes b t], []⟩) (fun _ R s =>
      R (.ok (.ret (.ref (s.heap.push { cls := .type "bytes_iterator", data := .fields #[.bytes b t, .int 0 0] }).objs.size)))
        { s with heap := (s.heap.push { cls := .type "bytes_iterator", data := .fields #[.bytes b t, .int 0 0] }).push { cls := .type "enumerate", data := .fields #[.none, .bool false, .ref s.heap.objs.size, rawInt 0, .none, .none] } }) :=
  .of_wp fun prog w A R s h => by
    obtain ⟨hp, g, d, tk, os⟩ := s
    have hsub := sub_enumerate
    wp_walk
    refine wpAny_stack_any fun st => wpAny_pure ?_
    split
    · rename_i c _ _ _ _ _
      cases (c == Value.type "enumerate")
      · wp_walk using KBw.pyIter_bytes
        exact ⟨_, rfl, h⟩
      · wp_walk using KBw.pyIter_bytes
        exact ⟨_, rfl, h⟩
    · wp_walk using KBw.pyIter_bytes
      exact ⟨_, rfl, h⟩

section
variable {prog : Program} {w : World} {A : Around} {E : Value → Shared → Prop} {s : Shared}
theorem call_enumB {b : Array UInt8} {t : Tok} {Q : Value → Shared → Prop}
    (h : ∀ h', IsEnum h' (s.heap.objs.size + 1) s.heap.objs.size 0 .none → KBw.IsBytesIter h' s.heap.objs.size b t 0 → h'.objs.size = s.heap.objs.size + 2 →
      (∀ b o, s.heap.get? b = some o → h'.get? b = some o) → Q (.ref (s.heap.objs.size + 1)) { s with heap := h' }) :
    wpAny (model prog w) A (call (.type "enumerate") [.bytes b t]) Q E s := by
  refine callType_new F.called_enumerate (by decide) (F.typeCall_enumerate_1 _) (F.newCall_enumerate_1 _) (fun obj => F.args_object_init_2 obj _) F.entry_enumerate_new
    (meets_enumB b t) ?_
  have hz : (s.heap.push { cls := .type "bytes_iterator", data := .fields #[.bytes b t, .int 0 0] }).objs.size = s.heap.objs.size + 1 := Heap.size_push ..
  show _ ∧ _
  rw [hz]
  have he : IsEnum ((s.heap.push { cls := .type "bytes_iterator", data := .fields #[.bytes b t, .int 0 0] }).push
      { cls := .type "enumerate", data := .fields #[.none, .bool false, .ref s.heap.objs.size, rawInt 0, .none, .none] }) (s.heap.objs.size + 1) s.heap.objs.size 0 .none := by
    have := Heap.get?_push_size (s.heap.push { cls := .type "bytes_iterator", data := .fields #[.bytes b t, .int 0 0] })
      (o := { cls := .type "enumerate", data := .fields #[.none, .bool false, .ref s.heap.objs.size, rawInt 0, .none, .none] }) rfl
    rw [hz] at this; exact this
  refine ⟨⟨_, he, rfl⟩, h _ he ⟨_, Heap.get?_push_of_some _ (Heap.get?_push_size _ rfl), rfl, rfl⟩ (by rw [Heap.size_push, hz]) fun b o y => Heap.get?_push_of_some _ (Heap.get?_push_of_some _ y)⟩
end
end Mine
end

section
open PySem PySem.W PyProof.Rows PySem.Calls
namespace Mine
open PySem.Builtin

/-! ### one sign of the law's text -/
abbrev grS : Str := Str.ofString "0123456789ABCDEF"
abbrev sgTest : Expr := .Compare (.BinOp (.BinOp (.Name (Str.ofString "turn") ⟨18, 40, 18, 44⟩) .FloorDiv (.BinOp (.Constant (.int 2) 0 ⟨18, 48, 18, 49⟩) .Pow (.BinOp (.Name (Str.ofString "row") ⟨18, 54, 18, 57⟩) .Mod (.Constant (.int 40) 0 ⟨18, 60, 18, 62⟩) ⟨18, 54, 18, 62⟩) ⟨18, 48, 18, 63⟩) ⟨18, 40, 18, 63⟩) .Mod (.Constant (.int 2) 0 ⟨18, 66, 18, 67⟩) ⟨18, 40, 18, 67⟩) [.Eq] [.Constant (.int 1) 0 ⟨18, 71, 18, 72⟩] ⟨18, 40, 18, 72⟩
abbrev sgPick : Expr := .IfExp sgTest (.Name (Str.ofString "_law_great") ⟨18, 26, 18, 36⟩) (.Name (Str.ofString "_law_small") ⟨18, 78, 18, 88⟩) ⟨18, 26, 18, 88⟩
abbrev sgElt : Expr := .Subscript sgPick (.Name (Str.ofString "digit") ⟨18, 90, 18, 95⟩) ⟨18, 25, 18, 96⟩

theorem gr_item : ∀ d : Nat, d < 16 → Txt.item grS (d : Int) = ⟨#[dG d]⟩ := by decide +kernel
theorem sm_item : ∀ d : Nat, d < 16 → Txt.item hxS (d : Int) = ⟨#[dg d]⟩ := by decide +kernel
theorem gr_len : grS.length = 16 := by decide +kernel
theorem sm_len : hxS.length = 16 := by decide +kernel

section
variable {prog : Program} {w : World} {A : Around} {E : Value → Shared → Prop} {s : Shared} {env : Env} {m : Str → Option Value} {Q : Value → Shared → Prop}

theorem sg_elt {turn : Int} {r d : Nat} {t1 t2 t3 : Tok} (hd : d < 16) (hk : env.scope.kind = .function) (hl1 : env.kindOf (Str.ofString "turn") = some .local) (hl2 : env.kindOf (Str.ofString "row") = some .local) (hl3 : env.kindOf (Str.ofString "digit") = some .local)
    (hn : s.heap.Ns env.locals m) (hm1 : m (Str.ofString "turn") = some (.int turn t1)) (hm2 : m (Str.ofString "row") = some (.int (r : Int) t2)) (hm3 : m (Str.ofString "digit") = some (.int (d : Int) t3))
    (hgr : ∀ (s' : Shared) (Q : Value → Shared → Prop), s'.heap = s.heap → (∀ t, Q (.str grS t) s') → wpAny (model prog w) A (eval (.Name (Str.ofString "_law_great") ⟨18, 26, 18, 36⟩) env) Q E s')
    (hsm : ∀ (s' : Shared) (Q : Value → Shared → Prop), s'.heap = s.heap → (∀ t, Q (.str hxS t) s') → wpAny (model prog w) A (eval (.Name (Str.ofString "_law_small") ⟨18, 78, 18, 88⟩) env) Q E s')
    (h : ∀ t tk, Q (.str ⟨#[sg turn r d]⟩ t) { s with toks := tk }) :
    wpAny (model prog w) A (eval sgElt env) Q E s := by
  refine Subscript_ ?_
  refine IfExp_ ?_
  refine wpAny_isTrue_Compare1 ?_
  refine wpAny_BinOp ?_
  refine wpAny_BinOp ?_
  refine wpAny_Name (wpAny_loadName_local hk hl1 (by exact hn) hm1 ?_)
  refine wpAny_BinOp ?_
  refine wpAny_Constant_int ?_
  refine wpAny_BinOp ?_
  refine wpAny_Name (wpAny_loadName_local hk hl2 (by exact hn) hm2 ?_)
  refine wpAny_Constant_int ?_
  refine mod_int' (by decide) ?_
  have hr : ((r : Int).fmod 40) = ((r % 40 : Nat) : Int) := by
    rw [Int.fmod_eq_emod_of_nonneg _ (by decide)]; omega
  rw [hr]
  refine pow_int_small (by omega) (by omega) (by decide) ?_
  rw [Int.toNat_natCast]
  have hp : (2 : Int) ^ (r % 40) ≠ 0 := Int.pow_ne_zero (by decide)
  have hpy : ((2 : Int) ^ (r % 40)).natAbs.log2 < 9000 := by
    rw [Int.natAbs_pow, show (2 : Int).natAbs = 2 from rfl, Nat.log2_two_pow]
    omega
  refine floordiv_int hp ?_ (Or.inl (PyProof.noPylong_of_log2 hpy))
  refine wpAny_Constant_int ?_
  refine mod_int' (by decide) ?_
  refine wpAny_Constant_int ?_
  refine PyProof.Rows.eq_int ?_
  refine wpAny_truthy_bool ?_
  by_cases hc : (turn.fdiv ((2 : Int) ^ (r % 40))).fmod 2 = 1
  · rw [if_pos (by rw [hc]; rfl)]
    refine hgr _ _ rfl fun t => ?_
    refine wpAny_Name (wpAny_loadName_local hk hl3 (by exact hn) hm3 ?_)
    refine item_str (fitsSsize_of (N := 9223372036854775808) (by omega) (by omega) (Int.le_refl _)) (by rw [gr_len]; omega) (by rw [gr_len]; omega) fun _ => ?_
    rw [gr_item d hd]
    have := h
    unfold sg at this
    rw [if_pos hc] at this
    exact this _ _
  · rw [if_neg (by simpa using hc)]
    refine hsm _ _ rfl fun t => ?_
    refine wpAny_Name (wpAny_loadName_local hk hl3 (by exact hn) hm3 ?_)
    refine item_str (fitsSsize_of (N := 9223372036854775808) (by omega) (by omega) (Int.le_refl _)) (by rw [sm_len]; omega) (by rw [sm_len]; omega) fun _ => ?_
    rw [sm_item d hd]
    have := h
    unfold sg at this
    rw [if_neg hc] at this
    exact this _ _
end

/-! joining signs -/
def sgn1 (c : Nat) : Str := ⟨#[c]⟩
theorem join_signs : ∀ l : List Nat, Str.join (Str.ofString "") (l.map sgn1) = ⟨l.toArray⟩
  | [] => rfl
  | [c] => rfl
  | c :: d :: r => by
    have ih := join_signs (d :: r)
    show (sgn1 c ++ Str.ofString "" ++ Str.join (Str.ofString "") ((d :: r).map sgn1) : Str) = _
    rw [ih]
    apply Str.ext'
    rw [Str.cps_append, Str.cps_append]
    show #[c] ++ (#[] : Array Nat) ++ (d :: r).toArray = (c :: d :: r).toArray
    simp
theorem glued_signs (l : List Nat) : Txt.join (Str.ofString "") (l.map sgn1) = ⟨l.toArray⟩ := by
  unfold Txt.join
  rw [StrLaws.glued_eq_join, join_signs]
theorem joinOk_fold : ∀ (l : List Nat) (a : Nat), (l.map sgn1).foldl (· + ·.length + (Str.ofString "").length) a = a + l.length
  | [], a => rfl
  | c :: r, a => by
    rw [List.map_cons, List.foldl_cons, joinOk_fold r]
    show a + 1 + 0 + r.length = _
    rw [List.length_cons]; omega
theorem joinOk_signs {l : List Nat} (h : l.length ≤ sizeLine) : JoinOk (Str.ofString "") (l.map sgn1) = true := by
  unfold JoinOk
  rw [← Array.foldl_toList]
  show (!Builtin.Str.tooLong ((l.map sgn1).foldl (· + ·.length + (Str.ofString "").length) 0)) = true
  rw [joinOk_fold, Nat.zero_add]
  unfold Builtin.Str.tooLong
  simp; omega
end Mine
end

section
open PySem PySem.W PyProof.Rows PySem.Calls
namespace Mine
open PySem.Builtin

abbrev sOf (x : String) : Str := Str.ofString x
abbrev ltScope : Scope := { kind := .function, names := [(sOf "octets", .local), (sOf "turn", .local), (sOf "signs", .local), (sOf "place", .local), (sOf "one", .local), (sOf "digit", .local), (sOf "row", .local), (sOf "enumerate", .globalImplicit), (sOf "_law_great", .globalImplicit), (sOf "_law_small", .globalImplicit)], isGenerator := false, isCoroutine := false, more := [] }
abbrev ltApp : Stmt := .Expr (.Call (.Attribute (.Name (sOf "signs") ⟨18, 12, 18, 17⟩) (sOf "append") ⟨18, 12, 18, 24⟩) [sgElt] [] ⟨18, 12, 18, 97⟩) ⟨18, 12, 18, 97⟩
abbrev ltPairs : Expr := .List [.Tuple [.BinOp (.Name (sOf "one") ⟨17, 28, 17, 31⟩) .FloorDiv (.Constant (.int 16) 0 ⟨17, 35, 17, 37⟩) ⟨17, 28, 17, 37⟩, .BinOp (.Constant (.int 2) 0 ⟨17, 39, 17, 40⟩) .Mult (.Name (sOf "place") ⟨17, 43, 17, 48⟩) ⟨17, 39, 17, 48⟩] 0 ⟨17, 27, 17, 49⟩,
  .Tuple [.BinOp (.Name (sOf "one") ⟨17, 52, 17, 55⟩) .Mod (.Constant (.int 16) 0 ⟨17, 58, 17, 60⟩) ⟨17, 52, 17, 60⟩, .BinOp (.BinOp (.Constant (.int 2) 0 ⟨17, 62, 17, 63⟩) .Mult (.Name (sOf "place") ⟨17, 66, 17, 71⟩) ⟨17, 62, 17, 71⟩) .Add (.Constant (.int 1) 0 ⟨17, 74, 17, 75⟩) ⟨17, 62, 17, 75⟩] 0 ⟨17, 51, 17, 76⟩] ⟨17, 26, 17, 77⟩
abbrev ltInner : Stmt := .For (.Tuple [.Name (sOf "digit") ⟨17, 12, 17, 17⟩, .Name (sOf "row") ⟨17, 19, 17, 22⟩] 0 ⟨17, 12, 17, 22⟩) ltPairs [ltApp] [] ⟨17, 8, 18, 97⟩
abbrev ltOuter : Stmt := .For (.Tuple [.Name (sOf "place") ⟨16, 8, 16, 13⟩, .Name (sOf "one") ⟨16, 15, 16, 18⟩] 0 ⟨16, 8, 16, 18⟩) (.Call (.Name (sOf "enumerate") ⟨16, 22, 16, 31⟩) [.Name (sOf "octets") ⟨16, 32, 16, 38⟩] [] ⟨16, 22, 16, 39⟩) [ltInner] [] ⟨16, 4, 18, 97⟩

abbrev lsO (l : List (Str × Tok)) (n : Nat) : Obj := { cls := .type "list", data := .seq (strValues l).toArray n }

section
variable {prog : Program} {w : World} {A : Around} {s : Shared} {g : Heap} {L a D : Addr} {m : Str → Option Value} {name : Str} {cd : Value} {turn : Int} {tt : Tok}

/-- a for whose turns do not raise -/
theorem for_loop {R : Result → Shared → Prop} {target : Expr} {it : Value} {body : List Stmt} {env : Env} (I : Nat → Shared → Prop)
    (turn : ∀ n s, I n s → wpAny (model prog w) A (pyNext it) (fun r s₁ => match r with
      | none => R (.ok .next) s₁
      | some v => wpAny (model prog w) A (letOwnedTupleGo target it v) (fun _ s₁' => wpAny (model prog w) A (assign target env v) (fun _ s₂ => wpAny (model prog w) A (execs body env) (fun f s₃ => f = .next ∧ ∃ m, m < n ∧ I m s₃)
          (fun _ _ => False) s₂) (fun _ _ => False) s₁') (fun _ _ => False) s₁) (fun _ _ => False) s)
    (n : Nat) (h : I n s) : codeAny (model prog w) A (.forLoop target it body [] env) R s := by
  refine codeAny_forLoop_any I (fun n s hI => wpAny_mono (turn n s hI) (fun r s₁ h₁ => ?_) fun _ _ x => x.elim) n h
  cases r with
  | none => exact wpAny_execs_nil h₁
  | some v =>
    refine wpAny_mono h₁ (fun _ s₁' h₁' => wpAny_mono h₁' (fun _ s₂ h₂ => wpAny_mono h₂ (fun f s₃ h₃ => ?_) fun _ _ x => x.elim) fun _ _ x => x.elim) fun _ _ x => x.elim
    obtain ⟨rfl, h₃⟩ := h₃
    exact h₃

theorem app_sign {E : Value → Shared → Prop} {Q : Flow → Shared → Prop} {l : List (Str × Tok)} {n r d : Nat} {t2 t3 : Tok} (F : Fr g L s.heap m) (hd : d < 16)
    (hms : m (sOf "signs") = some (.ref D)) (hm1 : m (sOf "turn") = some (.int turn tt)) (hm2 : m (sOf "row") = some (.int (r : Int) t2)) (hm3 : m (sOf "digit") = some (.int (d : Int) t3))
    (hD : s.heap.get? D = some (lsO l n)) (hsz : l.length ≤ sizeLine)
    (hgr : ∀ (s' : Shared) (m' : Str → Option Value) (Q E : Value → Shared → Prop), Fr g L s'.heap m' → (∀ t, Q (.str grS t) s') → wpAny (model prog w) A (eval (.Name (sOf "_law_great") ⟨18, 26, 18, 36⟩) (envOf name ltScope L a cd)) Q E s')
    (hsm : ∀ (s' : Shared) (m' : Str → Option Value) (Q E : Value → Shared → Prop), Fr g L s'.heap m' → (∀ t, Q (.str hxS t) s') → wpAny (model prog w) A (eval (.Name (sOf "_law_small") ⟨18, 78, 18, 88⟩) (envOf name ltScope L a cd)) Q E s')
    (h : ∀ h' t tk, Heap.SameBut D s.heap h' → h'.get? D = some (lsO (l ++ [(sgn1 (sg turn r d), t)]) (n + 1)) → Q .next { s with heap := h', toks := tk }) :
    wpAny (model prog w) A (exec ltApp (envOf name ltScope L a cd)) Q E s := by
  refine wpAny_Expr ?_
  refine MethodCall_ ?_
  refine wpAny_Name (wpAny_loadName_local rfl rfl (by exact F.ns) hms ?_)
  refine getMethod_list_append hD rfl rfl ?_
  refine callWith_method1 ?_
  refine spliced_more ?_
  refine sg_elt hd rfl rfl rfl rfl (by exact F.ns) hm1 hm2 hm3 (fun s' Q' e hQ' => hgr s' m Q' _ (by rw [e]; exact F) hQ') (fun s' Q' e hQ' => hsm s' m Q' _ (by rw [e]; exact F) hQ') fun t tk => ?_
  refine spliced_nil ?_
  refine append_at (hsz := by simp [strValues]; exact hsz) hD fun h' hs' hD' => ?_
  refine h h' t tk hs' (hD'.trans ?_)
  simp [strValues, sgn1]

theorem fr_of {h₀ h h' : Heap} {m' : Str → Option Value} (F : Fr h₀ L h m) (hD : h₀.get? D = none) (hn : h'.Ns L m') (hk : ∀ b o, b ≠ L → b ≠ D → h.get? b = some o → h'.get? b = some o) : Fr h₀ L h' m' :=
  ⟨hn, fun b o e => hk b o (Nat.ne_of_lt (Nat.lt_of_lt_of_le (Heap.lt_size e) F.above)) (fun q => by rw [q, hD] at e; cases e) (F.keep b o e), F.above⟩

theorem inner_loop {R : Result → Shared → Prop} {T1 T2 Lx J : Addr} {l : List (Str × Tok)} {n r1 r2 d1 d2 : Nat} {a1 b1 a2 b2 : Tok} (hh : A.handled = none) (F : Fr g L s.heap m) (hgD : g.get? D = none) (hgJ : g.get? J = none) (hd1 : d1 < 16) (hd2 : d2 < 16)
    (hms : m (sOf "signs") = some (.ref D)) (hmt : m (sOf "turn") = some (.int turn tt)) (hD : s.heap.get? D = some (lsO l n)) (hsz : l.length + 2 ≤ sizeLine)
    (hJ : s.heap.IsListIter J Lx 0) (hLx : s.heap.IsList Lx #[.ref T1, .ref T2]) (hT1 : s.heap.IsTuple T1 #[.int (d1 : Int) a1, .int (r1 : Int) b1]) (hT2 : s.heap.IsTuple T2 #[.int (d2 : Int) a2, .int (r2 : Int) b2])
    (nDL : D ≠ L) (nJL : J ≠ L) (nJD : J ≠ D) (nLJ : Lx ≠ J) (nLL : Lx ≠ L) (nLD : Lx ≠ D) (n1J : T1 ≠ J) (n1L : T1 ≠ L) (n1D : T1 ≠ D) (n2J : T2 ≠ J) (n2L : T2 ≠ L) (n2D : T2 ≠ D)
    (hgr : ∀ (s' : Shared) (m' : Str → Option Value) (Q E : Value → Shared → Prop), Fr g L s'.heap m' → (∀ t, Q (.str grS t) s') → wpAny (model prog w) A (eval (.Name (sOf "_law_great") ⟨18, 26, 18, 36⟩) (envOf name ltScope L a cd)) Q E s')
    (hsm : ∀ (s' : Shared) (m' : Str → Option Value) (Q E : Value → Shared → Prop), Fr g L s'.heap m' → (∀ t, Q (.str hxS t) s') → wpAny (model prog w) A (eval (.Name (sOf "_law_small") ⟨18, 78, 18, 88⟩) (envOf name ltScope L a cd)) Q E s')
    (hR : ∀ h' tk l' n' m', h'.get? D = some (lsO l' n') → l'.map (·.1) = l.map (·.1) ++ [sgn1 (sg turn r1 d1), sgn1 (sg turn r2 d2)] → h'.Ns L m' → (∀ z, z ≠ sOf "digit" → z ≠ sOf "row" → m' z = m z) →
      (∀ b o, b ≠ L → b ≠ D → b ≠ J → s.heap.get? b = some o → h'.get? b = some o) → R (.ok .next) { s with heap := h', toks := tk }) :
    codeAny (model prog w) A (.forLoop (.Tuple [.Name (sOf "digit") ⟨17, 12, 17, 17⟩, .Name (sOf "row") ⟨17, 19, 17, 22⟩] 0 ⟨17, 12, 17, 22⟩) (.ref J) [ltApp] [] (envOf name ltScope L a cd)) R s := by
  refine for_loop
    (fun k s' => ∃ h' tk j l' n' m', s' = { s with heap := h', toks := tk } ∧ j ≤ 2 ∧ k = 3 - j ∧ h'.IsListIter J Lx j ∧ h'.get? D = some (lsO l' n') ∧ l'.map (·.1) = l.map (·.1) ++ ([sgn1 (sg turn r1 d1), sgn1 (sg turn r2 d2)].take j) ∧ h'.Ns L m' ∧
      (∀ z, z ≠ sOf "digit" → z ≠ sOf "row" → m' z = m z) ∧ (∀ b o, b ≠ L → b ≠ D → b ≠ J → s.heap.get? b = some o → h'.get? b = some o)) ?_ 3 ⟨s.heap, s.toks, 0, l, n, m, rfl, by omega, rfl, hJ, hD, by simp, F.ns, fun _ _ _ => rfl, fun _ _ _ _ _ e => e⟩
  rintro k s' ⟨h', tk, j, l', n', m', rfl, hj, rfl, hJ', hD', hl', hn', hm', hk'⟩
  have hLx' : h'.IsList Lx #[.ref T1, .ref T2] := let ⟨o, ho, r⟩ := hLx; ⟨o, hk' _ o nLL nLD nLJ ho, r⟩
  by_cases hj2 : j = 2
  · subst hj2
    refine wpAny_pyNext_list_end hh hJ' hLx' rfl fun h₂ hk₂ => ?_
    exact hR h₂ tk l' n' m' (hk₂ _ _ nJD.symm hD') hl' (hn'.at' fun o e => hk₂ _ o nJL.symm e) hm' fun b o q1 q2 q3 e => hk₂ b o q3 (hk' b o q1 q2 q3 e)
  · have hT1' : h'.IsTuple T1 #[.int (d1 : Int) a1, .int (r1 : Int) b1] := let ⟨o, ho, r⟩ := hT1; ⟨o, hk' _ o n1L n1D n1J ho, r⟩
    have hT2' : h'.IsTuple T2 #[.int (d2 : Int) a2, .int (r2 : Int) b2] := let ⟨o, ho, r⟩ := hT2; ⟨o, hk' _ o n2L n2D n2J ho, r⟩
    obtain ⟨T, d, r, ta, tb, hx, hT, hd, nTJ, hsg⟩ : ∃ T d r ta tb, (#[.ref T1, .ref T2] : Array Value)[j]? = some (.ref T) ∧ h'.IsTuple T #[.int ((d : Nat) : Int) ta, .int ((r : Nat) : Int) tb] ∧ d < 16 ∧ T ≠ J ∧ ([sgn1 (sg turn r1 d1), sgn1 (sg turn r2 d2)])[j]? = some (sgn1 (sg turn r d)) := by
      have : j = 0 ∨ j = 1 := by omega
      rcases this with rfl | rfl
      · exact ⟨T1, d1, r1, a1, b1, rfl, hT1', hd1, n1J, rfl⟩
      · exact ⟨T2, d2, r2, a2, b2, rfl, hT2', hd2, n2J, rfl⟩
    refine wpAny_pyNext_list_item hJ' hLx' hx fun h₂ hJ₂ hs₂ => ?_
    refine wpAny_letOwnedTupleGo_listiter hJ₂ ?_
    refine kcp_assign (env := envOf name ltScope L a cd) hh (hT.extBut hs₂.extBut nTJ) rfl rfl rfl (hn'.at' fun o e => hs₂.extBut _ o nJL.symm e) fun h₃ tk₃ hn₃ hk₃ => ?_
    have hk3' : ∀ b o, b ≠ L → b ≠ D → b ≠ J → s.heap.get? b = some o → h₃.get? b = some o := fun b o q1 q2 q3 e => hk₃ b o q1 (hs₂.extBut b o q3 (hk' b o q1 q2 q3 e))
    have F₃ : Fr g L h₃ _ := ⟨hn₃, fun b o e => hk3' b o (Nat.ne_of_lt (Nat.lt_of_lt_of_le (Heap.lt_size e) F.above)) (fun q => by rw [q, hgD] at e; cases e) (fun q => by rw [q, hgJ] at e; cases e) (F.keep b o e), F.above⟩
    have hD₃ : h₃.get? D = some (lsO l' n') := hk₃ _ _ nDL (hs₂.extBut _ _ nJD.symm hD')
    have hll : l'.length ≤ sizeLine := by
      have := congrArg List.length hl'
      simp only [List.length_map, List.length_append, List.length_take, List.length_cons, List.length_nil] at this
      omega
    refine wpAny_execs_cons ?_
    refine app_sign (turn := turn) (tt := tt) (r := r) (d := d) F₃ hd ?_ ?_ rfl (by show (if _ then _ else if _ then _ else _) = _; rw [if_neg (by decide), if_pos rfl]) hD₃ hll hgr hsm fun h₄ t tk₄ hs₄ hD₄ => ?_
    · show (if _ then _ else if _ then _ else _) = _
      rw [if_neg (by decide), if_neg (by decide), hm' _ (by decide) (by decide)]; exact hms
    · show (if _ then _ else if _ then _ else _) = _
      rw [if_neg (by decide), if_neg (by decide), hm' _ (by decide) (by decide)]; exact hmt
    refine wpAny_execs_nil ⟨rfl, ?_⟩
    refine ⟨3 - (j + 1), by omega, h₄, tk₄, j + 1, _, _, _, rfl, by omega, rfl, ?_, hD₄, ?_, hn₃.at' fun o e => hs₄.extBut _ o nDL.symm e, ?_, ?_⟩
    · exact (let ⟨o, ho, q⟩ := hJ₂; ⟨o, hs₄.extBut _ o nJD (hk₃ _ o nJL ho), q⟩)
    · rw [List.map_append, hl', List.take_add_one, hsg, List.append_assoc]; rfl
    · intro z q1 q2
      show (if _ then _ else if _ then _ else _) = _
      rw [if_neg q2, if_neg q1]; exact hm' z q1 q2
    · exact fun b o q1 q2 q3 e => hs₄.extBut b o q2 (hk3' b o q1 q2 q3 e)

theorem inner_for {E : Value → Shared → Prop} {Q : Flow → Shared → Prop} {l : List (Str × Tok)} {n p c : Nat} {tp tc : Tok} (hh : A.handled = none) (F : Fr g L s.heap m) (hgD : g.get? D = none) (hLD : D ≠ L) (hc : c < 256)
    (hms : m (sOf "signs") = some (.ref D)) (hmt : m (sOf "turn") = some (.int turn tt)) (hmp : m (sOf "place") = some (.int (p : Int) tp)) (hmo : m (sOf "one") = some (.int (c : Int) tc))
    (hD : s.heap.get? D = some (lsO l n)) (hsz : l.length + 2 ≤ sizeLine)
    (hgr : ∀ (s' : Shared) (m' : Str → Option Value) (Q E : Value → Shared → Prop), Fr g L s'.heap m' → (∀ t, Q (.str grS t) s') → wpAny (model prog w) A (eval (.Name (sOf "_law_great") ⟨18, 26, 18, 36⟩) (envOf name ltScope L a cd)) Q E s')
    (hsm : ∀ (s' : Shared) (m' : Str → Option Value) (Q E : Value → Shared → Prop), Fr g L s'.heap m' → (∀ t, Q (.str hxS t) s') → wpAny (model prog w) A (eval (.Name (sOf "_law_small") ⟨18, 78, 18, 88⟩) (envOf name ltScope L a cd)) Q E s')
    (hQ : ∀ h' tk l' n' m', h'.get? D = some (lsO l' n') → l'.map (·.1) = l.map (·.1) ++ [sgn1 (sg turn (2 * p) (c / 16)), sgn1 (sg turn (2 * p + 1) (c % 16))] → h'.Ns L m' → (∀ z, z ≠ sOf "digit" → z ≠ sOf "row" → m' z = m z) →
      (∀ b o, b ≠ L → b ≠ D → s.heap.get? b = some o → h'.get? b = some o) → Q .next { s with heap := h', toks := tk }) :
    wpAny (model prog w) A (exec ltInner (envOf name ltScope L a cd)) Q E s := by
  have nm : ∀ {x : Str} {pos : Pos} {v : Value} {h' : Heap} {tk : Nat} {Q : Value → Shared → Prop} {E : Value → Shared → Prop}, (envOf name ltScope L a cd).kindOf x = some .local → (x == ("__debug__" : Str)) = false → h'.Ns L m → m x = some v → Q v { s with heap := h', toks := tk } →
      wpAny (model prog w) A (eval (.Name x pos) (envOf name ltScope L a cd)) Q E { s with heap := h', toks := tk } := fun hl hd hn hm hQ => wpAny_Name (hd := hd) (wpAny_loadName_local rfl hl (by exact hn) hm hQ)
  refine wpAny_For ?_
  refine List_ ?_
  refine spliced_more ?_
  refine Tuple_ ?_
  refine spliced_more ?_
  refine wpAny_BinOp ?_
  refine nm (h' := s.heap) rfl (by decide) F.ns hmo ?_
  refine wpAny_Constant_int ?_
  refine floordiv_int (by decide) ?_ (Or.inl (PyProof.noPylong_small (by decide)))
  refine spliced_more ?_
  refine wpAny_BinOp ?_
  refine wpAny_Constant_int ?_
  refine nm (h' := s.heap) rfl (by decide) F.ns hmp ?_
  refine PyProof.Rows.mul_int ?_ (IntMulOk.of_left (by decide))
  refine spliced_nil ?_
  refine wpAny_newTuple ?_
  refine spliced_more ?_
  refine Tuple_ ?_
  refine spliced_more ?_
  refine wpAny_BinOp ?_
  refine nm (h' := s.heap.push _) rfl (by decide) (F.ns.push _) hmo ?_
  refine wpAny_Constant_int ?_
  refine mod_int' (by decide) ?_
  refine spliced_more ?_
  refine wpAny_BinOp ?_
  refine wpAny_BinOp ?_
  refine wpAny_Constant_int ?_
  refine nm (h' := s.heap.push _) rfl (by decide) (F.ns.push _) hmp ?_
  refine PyProof.Rows.mul_int ?_ (IntMulOk.of_left (by decide))
  refine wpAny_Constant_int ?_
  refine PyProof.Rows.add_int ?_
  refine spliced_nil ?_
  refine wpAny_newTuple ?_
  refine spliced_nil ?_
  refine wpAny_newList ?_
  dsimp only
  have e1 : ((c : Int).fdiv 16) = ((c / 16 : Nat) : Int) := by rw [Int.fdiv_eq_ediv_of_nonneg _ (by decide)]; omega
  have e2 : ((c : Int).fmod 16) = ((c % 16 : Nat) : Int) := by rw [Int.fmod_eq_emod_of_nonneg _ (by decide)]; omega
  have e3 : (2 * (p : Int)) = ((2 * p : Nat) : Int) := by omega
  have e4 : (((2 * p : Nat) : Int) + 1) = ((2 * p + 1 : Nat) : Int) := by omega
  rw [e1, e2, e3, e4]
  generalize hH1 : s.heap.push { cls := .type "tuple", data := .seq [Value.int ((c / 16 : Nat) : Int) _, Value.int ((2 * p : Nat) : Int) _].toArray } = H1
  obtain ⟨a1, b1, hT1⟩ : ∃ a b, H1.IsTuple s.heap.objs.size #[.int ((c / 16 : Nat) : Int) a, .int ((2 * p : Nat) : Int) b] := ⟨_, _, _, hH1 ▸ Heap.get?_push_size _ rfl, rfl, _, rfl⟩
  have k1 : ∀ b o, s.heap.get? b = some o → H1.get? b = some o := fun b o e => hH1 ▸ Heap.get?_push_of_some _ e
  have z1 : H1.objs.size = s.heap.objs.size + 1 := by rw [← hH1, Heap.size_push]
  generalize hH2 : H1.push { cls := .type "tuple", data := .seq [Value.int ((c % 16 : Nat) : Int) _, Value.int ((2 * p + 1 : Nat) : Int) _].toArray } = H2
  obtain ⟨a2, b2, hT2⟩ : ∃ a b, H2.IsTuple H1.objs.size #[.int ((c % 16 : Nat) : Int) a, .int ((2 * p + 1 : Nat) : Int) b] := ⟨_, _, _, hH2 ▸ Heap.get?_push_size _ rfl, rfl, _, rfl⟩
  have k2 : ∀ b o, H1.get? b = some o → H2.get? b = some o := fun b o e => hH2 ▸ Heap.get?_push_of_some _ e
  have z2 : H2.objs.size = s.heap.objs.size + 2 := by rw [← hH2, Heap.size_push, z1]
  generalize hH3 : H2.push { cls := .type "list", data := .seq [Value.ref s.heap.objs.size, Value.ref H1.objs.size].toArray } = H3
  have hLx : H3.IsList H2.objs.size #[.ref s.heap.objs.size, .ref H1.objs.size] := ⟨_, hH3 ▸ Heap.get?_push_size _ rfl, rfl, _, rfl⟩
  have k3 : ∀ b o, H2.get? b = some o → H3.get? b = some o := fun b o e => hH3 ▸ Heap.get?_push_of_some _ e
  have z3 : H3.objs.size = s.heap.objs.size + 3 := by rw [← hH3, Heap.size_push, z2]
  refine wpAny_pyIter_list hLx ?_
  dsimp only
  generalize hH4 : H3.push { cls := .type "list_iterator", data := .fields #[.ref H2.objs.size, .int 0 0] } = H4
  have hJ4 : H4.IsListIter H3.objs.size H2.objs.size 0 := ⟨_, hH4 ▸ Heap.get?_push_size _ rfl, rfl, rfl⟩
  have k4 : ∀ b o, H3.get? b = some o → H4.get? b = some o := fun b o e => hH4 ▸ Heap.get?_push_of_some _ e
  have up : ∀ b o, s.heap.get? b = some o → H4.get? b = some o := fun b o e => k4 b o (k3 b o (k2 b o (k1 b o e)))
  have lt : ∀ b o, s.heap.get? b = some o → @LT.lt Nat _ b s.heap.objs.size := fun b o e => Heap.lt_size e
  have ltL : @LT.lt Nat _ L s.heap.objs.size := F.ns.lt
  have ltD : @LT.lt Nat _ D s.heap.objs.size := lt _ _ hD
  have gnone : ∀ b, s.heap.objs.size ≤ b → g.get? b = none := fun b hb => by
    cases e : g.get? b with
    | none => rfl
    | some o => exact absurd (lt b o (F.keep b o e)) (Nat.not_lt.mpr hb)
  refine inner_loop (T1 := s.heap.objs.size) (T2 := H1.objs.size) (Lx := H2.objs.size) (J := H3.objs.size) (l := l) (n := n) (r1 := 2 * p) (r2 := 2 * p + 1) (d1 := c / 16) (d2 := c % 16) (m := m) (turn := turn) (tt := tt) hh (F.keeps up) hgD (gnone _ (by rw [z3]; omega)) (by omega) (by omega) hms hmt (up _ _ hD) hsz
    hJ4 (let ⟨o, ho, r⟩ := hLx; ⟨o, k4 _ o ho, r⟩) (let ⟨o, ho, r⟩ := hT1; ⟨o, k4 _ o (k3 _ o (k2 _ o ho)), r⟩) (let ⟨o, ho, r⟩ := hT2; ⟨o, k4 _ o (k3 _ o ho), r⟩)
    hLD ?_ ?_ ?_ ?_ ?_ ?_ ?_ ?_ ?_ ?_ ?_ hgr hsm fun h' tk l' n' m' q1 q2 q3 q4 q5 => ?_
  any_goals (refine neN ?_; (try rw [z3]); (try rw [z2]); (try rw [z1]); omega)
  exact hQ h' tk l' n' m' q1 q2 q3 q4 fun b o x1 x2 e => q5 b o x1 x2 (by refine neN ?_; rw [z3]; have := lt b o e; omega) (up b o e)
end
end Mine
end

section
open PySem PySem.W PyProof.Rows PySem.Calls
namespace Mine
open PySem.Builtin
section
variable {prog : Program} {w : World} {A : Around} {s : Shared} {g : Heap} {L a D : Addr} {m : Str → Option Value} {name : Str} {cd : Value} {turn : Int} {tt : Tok}

theorem outer_for {E : Value → Shared → Prop} {Q : Flow → Shared → Prop} {n : Nat} {row : Array UInt8} {tb : Tok} (hh : A.handled = none) (F : Fr g L s.heap m) (hgD : g.get? D = none) (hLD : D ≠ L)
    (hms : m (sOf "signs") = some (.ref D)) (hmt : m (sOf "turn") = some (.int turn tt)) (hmo : m (sOf "octets") = some (.bytes row tb))
    (hD : s.heap.get? D = some (lsO [] n)) (hsz : 2 * row.size ≤ sizeLine)
    (hen : ∀ (Q E : Value → Shared → Prop), Q (.type "enumerate") s → wpAny (model prog w) A (eval (.Name (sOf "enumerate") ⟨16, 22, 16, 31⟩) (envOf name ltScope L a cd)) Q E s)
    (hgr : ∀ (s' : Shared) (m' : Str → Option Value) (Q E : Value → Shared → Prop), Fr g L s'.heap m' → (∀ t, Q (.str grS t) s') → wpAny (model prog w) A (eval (.Name (sOf "_law_great") ⟨18, 26, 18, 36⟩) (envOf name ltScope L a cd)) Q E s')
    (hsm : ∀ (s' : Shared) (m' : Str → Option Value) (Q E : Value → Shared → Prop), Fr g L s'.heap m' → (∀ t, Q (.str hxS t) s') → wpAny (model prog w) A (eval (.Name (sOf "_law_small") ⟨18, 78, 18, 88⟩) (envOf name ltScope L a cd)) Q E s')
    (hQ : ∀ h' tk l' n' m', h'.get? D = some (lsO l' n') → l'.map (·.1) = (lawL turn 0 row.toList).map sgn1 → Fr g L h' m' → m' (sOf "signs") = some (.ref D) →
      (∀ b o, b ≠ L → b ≠ D → s.heap.get? b = some o → h'.get? b = some o) → Q .next { s with heap := h', toks := tk }) :
    wpAny (model prog w) A (exec ltOuter (envOf name ltScope L a cd)) Q E s := by
  refine wpAny_For ?_
  refine Call_ ?_
  refine hen _ _ ?_
  refine PyProof.Rows.callWith_type1 ?_
  refine spliced_more ?_
  refine wpAny_Name (wpAny_loadName_local rfl rfl (by exact F.ns) hmo ?_)
  refine spliced_nil ?_
  refine call_enumB fun h₁ he₁ hb₁ hz₁ hk₁ => ?_
  refine wpAny_pyIter_enum he₁ ?_
  have W := WalksT.enumerateD (drawsB (prog := prog) (w := w) (A := A.in1) hh s.heap.objs.size row tb) (s.heap.objs.size + 1) (by refine neN ?_; omega) (by intro h; simp at h) (by simp)
  generalize hIt : s.heap.objs.size = it at he₁ hb₁ hz₁ W ⊢
  generalize hE : it + 1 = e at he₁ hz₁ W ⊢
  have lt : ∀ b o, s.heap.get? b = some o → @LT.lt Nat _ b it := fun b o q => hIt ▸ Heap.lt_size q
  have nL : L ≠ it ∧ L ≠ e := by
    have : @LT.lt Nat _ L it := hIt ▸ F.ns.lt
    exact ⟨neN (by omega), neN (by omega)⟩
  have nD : D ≠ it ∧ D ≠ e := by
    have := lt _ _ hD
    exact ⟨neN (by omega), neN (by omega)⟩
  have nold : ∀ b o, s.heap.get? b = some o → b ≠ it ∧ b ≠ e := fun b o q => by
    have := lt _ _ q
    exact ⟨neN (by omega), neN (by omega)⟩
  have off : ∀ {b}, b ≠ it → b ≠ e → b ∉ [e, it] := fun q1 q2 hm => by
    rcases List.mem_cons.mp hm with r | hm
    · exact q2 r
    · rcases List.mem_cons.mp hm with r | hm
      · exact q1 r
      · cases hm
  refine for_loop
    (fun k s' => ∃ h' tk i l' n' m', s' = { s with heap := h', toks := tk } ∧ i ≤ row.size ∧ k = row.size + 1 - i ∧ ((∃ old, IsEnum h' e it i old) ∧ KBw.IsBytesIter h' it row tb i) ∧ h'.get? D = some (lsO l' n') ∧
      l'.map (·.1) = (lawL turn 0 (row.toList.take i)).map sgn1 ∧ h'.Ns L m' ∧ m' (sOf "signs") = some (.ref D) ∧ m' (sOf "turn") = some (.int turn tt) ∧ (∀ b o, b ≠ L → b ≠ D → s.heap.get? b = some o → h'.get? b = some o)) ?_ (row.size + 1)
    ⟨h₁, _, 0, [], n, m, rfl, Nat.zero_le _, rfl, ⟨⟨_, he₁⟩, hb₁⟩, hk₁ _ _ hD, rfl, F.ns.at' fun o q => hk₁ _ o q, hms, hmt, fun b o _ _ q => hk₁ b o q⟩
  rintro k s' ⟨h', tk, i, l', n', m', rfl, hi, rfl, hst, hD', hl', hn', hms', hmt', hk'⟩
  have frk : ∀ {h'' : Heap} {m''}, h''.Ns L m'' → (∀ b o, b ≠ L → b ≠ D → s.heap.get? b = some o → h''.get? b = some o) → Fr g L h'' m'' := fun q1 q2 => fr_of F hgD q1 q2
  by_cases hend : i = row.size
  · refine W.done _ _ _ (by rw [← hend]; exact hst) fun h₂ tk₂ hk₂ => ?_
    refine hQ h₂ tk₂ l' n' m' (hk₂ _ _ (off nD.1 nD.2) hD') (by rw [hend, ← Array.length_toList, List.take_length] at hl'; exact hl') (frk (hn'.at' fun o q => hk₂ _ o (off nL.1 nL.2) q) fun b o x1 x2 q => hk₂ b o (off (nold b o q).1 (nold b o q).2) (hk' b o x1 x2 q)) hms'
      fun b o x1 x2 q => hk₂ b o (off (nold b o q).1 (nold b o q).2) (hk' b o x1 x2 q)
  · have hlt : i < row.size := by omega
    refine W.item i _ _ _ hlt hst fun T vals h₂ tk₂ hP _ hT hMid hk₂ => ?_
    refine W.go _ _ _ i T _ _ _ hMid fun h₃ hst₃ hk₃ => ?_
    obtain ⟨_, _, hTe, hTi⟩ := hMid
    obtain ⟨ti, x, ⟨c, tc, hc, rfl⟩, rfl⟩ := hP
    have hcl : row.toList[i]? = some c := by simpa using hc
    have hT₃ : h₃.IsTuple T _ := let ⟨o, ho, r⟩ := hT; ⟨o, hk₃ _ o (off hTi hTe) ho, r⟩
    have k3' : ∀ b o, b ≠ L → b ≠ D → s.heap.get? b = some o → h₃.get? b = some o := fun b o x1 x2 q => hk₃ b o (off (nold b o q).1 (nold b o q).2) (hk₂ b o (off (nold b o q).1 (nold b o q).2) (hk' b o x1 x2 q))
    refine kcp_assign (env := envOf name ltScope L a cd) hh hT₃ rfl rfl rfl (hn'.at' fun o q => hk₃ _ o (off nL.1 nL.2) (hk₂ _ o (off nL.1 nL.2) q)) fun h₄ tk₄ hn₄ hk₄ => ?_
    have k4' : ∀ b o, b ≠ L → b ≠ D → s.heap.get? b = some o → h₄.get? b = some o := fun b o x1 x2 q => hk₄ b o x1 (k3' b o x1 x2 q)
    have F₄ := frk hn₄ k4'
    have hD₄ : h₄.get? D = some (lsO l' n') := hk₄ _ _ hLD (hk₃ _ _ (off nD.1 nD.2) (hk₂ _ _ (off nD.1 nD.2) hD'))
    have hll : l'.length + 2 ≤ sizeLine := by
      have := congrArg List.length hl'
      simp only [List.length_map, lawL_length, List.length_take, Array.length_toList] at this
      omega
    have get4 : ∀ z, z ≠ sOf "place" → z ≠ sOf "one" → (fun z => if z = sOf "one" then some (Value.int (c.toNat : Int) tc) else if z = sOf "place" then some (Value.int (i : Int) ti) else m' z) z = m' z := fun z q1 q2 => by
      show (if _ then _ else if _ then _ else _) = _
      rw [if_neg q2, if_neg q1]
    refine wpAny_execs_cons ?_
    refine inner_for (turn := turn) (tt := tt) (p := i) (c := c.toNat) (tp := ti) (tc := tc) hh F₄ hgD hLD c.toNat_lt ((get4 _ (by decide) (by decide)).trans hms') ((get4 _ (by decide) (by decide)).trans hmt')
      (by show (if _ then _ else if _ then _ else _) = _; rw [if_neg (by decide), if_pos rfl]) rfl hD₄ hll hgr hsm fun h₅ tk₅ l₅ n₅ m₅ hD₅ hl₅ hn₅ hm₅ hk₅ => ?_
    refine wpAny_execs_nil ⟨rfl, ?_⟩
    refine ⟨row.size + 1 - (i + 1), by omega, h₅, tk₅, i + 1, l₅, n₅, m₅, rfl, by omega, rfl, ?_, hD₅, ?_, hn₅, ?_, ?_, fun b o x1 x2 q => hk₅ b o x1 x2 (k4' b o x1 x2 q)⟩
    · refine W.frame _ _ _ hst₃ fun b hb o q => ?_
      have hb' : b = e ∨ b = it := by
        rcases List.mem_cons.mp hb with r | hb
        · exact .inl r
        · rcases List.mem_cons.mp hb with r | hb
          · exact .inr r
          · cases hb
      rcases hb' with rfl | rfl
      · exact hk₅ _ o nL.2.symm nD.2.symm (hk₄ _ o nL.2.symm q)
      · exact hk₅ _ o nL.1.symm nD.1.symm (hk₄ _ o nL.1.symm q)
    · rw [hl₅, hl', List.take_add_one, hcl]
      show _ = (lawL turn 0 (row.toList.take i ++ [c])).map sgn1
      rw [lawL_snoc, List.map_append, List.length_take, Array.length_toList, Nat.min_eq_left hi, Nat.zero_add]
      rfl
    · rw [hm₅ _ (by decide) (by decide)]; exact (get4 _ (by decide) (by decide)).trans hms'
    · rw [hm₅ _ (by decide) (by decide)]; exact (get4 _ (by decide) (by decide)).trans hmt'
end
end Mine
end

section
open PySem PySem.W PyProof.Rows PySem.Calls
namespace Mine
section
variable {prog : Program} {w : World} {A : Around} {s : Shared} {g : Heap} {L a D : Addr} {m : Str → Option Value} {name : Str} {cd : Value} {turn : Int} {tt : Tok} {news : List (Addr × Obj)} {E : Value → Shared → Prop}

theorem outer_K {Q : Flow → Shared → Prop} {n : Nat} {row : Array UInt8} {tb : Tok} (hh : A.handled = none) (F : Fr g L s.heap m) (N : News g L s.heap ((D, lsO [] n) :: news)) (hnD : ∀ p ∈ news, p.1 ≠ D)
    (hms : m (sOf "signs") = some (.ref D)) (hmt : m (sOf "turn") = some (.int turn tt)) (hmo : m (sOf "octets") = some (.bytes row tb)) (hsz : 2 * row.size ≤ sizeLine)
    (hen : ∀ (Q E : Value → Shared → Prop), Q (.type "enumerate") s → wpAny (model prog w) A (eval (.Name (sOf "enumerate") ⟨16, 22, 16, 31⟩) (envOf name ltScope L a cd)) Q E s)
    (hgr : ∀ (s' : Shared) (m' : Str → Option Value) (Q E : Value → Shared → Prop), Fr g L s'.heap m' → (∀ t, Q (.str grS t) s') → wpAny (model prog w) A (eval (.Name (sOf "_law_great") ⟨18, 26, 18, 36⟩) (envOf name ltScope L a cd)) Q E s')
    (hsm : ∀ (s' : Shared) (m' : Str → Option Value) (Q E : Value → Shared → Prop), Fr g L s'.heap m' → (∀ t, Q (.str hxS t) s') → wpAny (model prog w) A (eval (.Name (sOf "_law_small") ⟨18, 78, 18, 88⟩) (envOf name ltScope L a cd)) Q E s')
    (hQ : ∀ (h' : Heap) (tk : Nat) (l' : List (Str × Tok)) (n' : Nat) (m' : Str → Option Value), Fr g L h' (fun z => if z = sOf "signs" then some (.ref D) else m' z) → News g L h' news → h'.get? D = some (lsO l' n') → l'.map (·.1) = (lawL turn 0 row.toList).map sgn1 → Q .next { s with heap := h', toks := tk }) :
    wpAny (model prog w) A (exec ltOuter (envOf name ltScope L a cd)) Q E s := by
  have hD := N _ (List.Mem.head _)
  refine outer_for hh F hD.2.2 hD.2.1 hms hmt hmo hD.1 hsz hen hgr hsm fun h' tk l' n' m' q1 q2 q3 q4 q5 => ?_
  have hf : (fun z => if z = sOf "signs" then some (.ref D) else m' z) = m' := by
    funext z
    by_cases hz : z = sOf "signs"
    · rw [if_pos hz, hz, q4]
    · rw [if_neg hz]
  exact hQ h' tk l' n' m' (by rw [hf]; exact q3) (fun p hp => ⟨q5 _ _ (N p (List.Mem.tail _ hp)).2.1 (hnD p hp) (N p (List.Mem.tail _ hp)).1, (N p (List.Mem.tail _ hp)).2⟩) q1 q2

theorem join_law {Q : Value → Shared → Prop} {l' : List (Str × Tok)} {n' : Nat} {row : Array UInt8} {t : Tok} (hD : s.heap.get? D = some (lsO l' n')) (hl' : l'.map (·.1) = (lawL turn 0 row.toList).map sgn1) (hsz : 2 * row.size ≤ sizeLine)
    (h : ∀ t' k, Q (.str (lawText row turn) t') { s with toks := k }) : wpAny (model prog w) A (call (.builtin "str.join") [.str (Str.ofString "") t, .ref D]) Q E s := by
  refine SC.join (l := l') ⟨_, hD, rfl, _, rfl⟩ hl' (joinOk_signs (by rw [lawL_length, Array.length_toList]; exact hsz)) fun t' k => ?_
  rw [glued_signs]
  exact h t' k
end

local macro_rules | `(tactic| walk_at "mine pad B18 0") => `(tactic| skip)
local macro_rules | `(tactic| walk_at "mine pad B18 1") => `(tactic| skip)
local macro_rules | `(tactic| walk_at "mine pad B18 2") => `(tactic| skip)
local macro_rules | `(tactic| walk_at "exec For Tuple Call") => `(tactic| (k_dflt (refine' outer_K ?h ?F ?N ?nD ?ms ?mt ?mo ?sz ?en ?gr ?sm ?_; (case h => rfl); (case F => assumption); (case N => assumption); (case ms => with_unfolding_all rfl); (case mt => with_unfolding_all rfl); (case mo => with_unfolding_all rfl); (case sz => assumption); (case en => intro Q9 E9 h9; refine' name_B ?a1 ?a2 ?a3 ?a4 ?a5 ?a6 h9; (case a1 => assumption); (case a2 => assumption); (case a3 => exact topRead_of (by assumption)); (case a4 => k_is); (case a5 => (show bootBuiltins (Str.ofString "enumerate") = _); boot_by_name); (case a6 => decide)); (case gr => intro s9 m9 Q9 E9 F9 h9; refine' name_K (v := .str grS 205) F9 ?a2 ?a3 ?a4 (h9 205); (case a2 => assumption); (case a3 => exact topRead_of (by assumption)); (case a4 => k_is)); (case sm => intro s9 m9 Q9 E9 F9 h9; refine' name_K (v := .str hxS 203) F9 ?a2 ?a3 ?a4 (h9 203); (case a2 => assumption); (case a3 => exact topRead_of (by assumption)); (case a4 => k_is)); (case nD => intro p hp; exact Nat.ne_of_lt ((by assumption : ∀ p ∈ _, p.1 < _) p hp))); intro h8 tk8 l8 n8 m8 F8 N8 hD8 hl8))
local macro_rules | `(tactic| walk_at "call builtin:str.join") => `(tactic| (refine join_law (by assumption) (by assumption) (by assumption) ?_; intro t7 k7))

theorem text_call (w : World) (mean : ExcName → Option Value) (mg mb : Str → Option Value) (news : List (Addr × Obj)) (row : Array UInt8) (tb : Tok) (turn : Int) (tt : Tok) (hz : 2 * row.size ≤ sizeLine) :
    Clm w mean mg mb 38 news [.bytes row tb, .int turn tt] (fun t => .str (lawText row turn) t) := by
  unfold Clm
  k_fill
  intros
  rename_i hret
  refine wpAny_call ?_
  k_dflt cell_enter
  repeat' (first | (k_unfold; (try dsimp only)) | walk1 | (dsimp only; walk1) | fail "no step")
  all_goals exact hret _ _ _ (by assumption) (by assumption)
end Mine
end

section
open PySem PySem.W PyProof.Rows
namespace Mine
open Mine2
def lawAt (ns : List Int) (p : Int) : Int := if (ns.length : Int) > 0 then ns.getD (p.fmod (ns.length : Int)).toNat 0 + p else 13 * p + 1

theorem asc_lit0 : Asc (Str.ofString "") := by decide
theorem good_lit0 : GoodT (low (Str.ofString "")) #[] := good_law #[] 0
theorem len_lit0 : (Str.ofString "").length ≤ 5592405 := by decide
theorem enc_lit0 : enc (Str.ofString "") = #[] := by
  have h : (Str.ofString "").cps = #[] := by decide +kernel
  simp [enc, h]
theorem un_str0 (w : World) (mean : ExcName → Option Value) (mg mb : Str → Option Value) (news : List (Addr × Obj)) (t : Tok) : Clm w mean mg mb 24 news [.str (Str.ofString "") t] (fun t => .bytes #[] t) :=
  un_str w mean mg mb news _ t #[] asc_lit0 good_lit0 len_lit0 (by decide)
theorem un_bytes0 (w : World) (mean : ExcName → Option Value) (mg mb : Str → Option Value) (news : List (Addr × Obj)) (t : Tok) : Clm w mean mg mb 24 news [.bytes #[] t] (fun t => .bytes #[] t) := by
  have h := un_bytes w mean mg mb news (Str.ofString "") t #[] asc_lit0 good_lit0 len_lit0 (by decide) (by decide)
  rw [enc_lit0] at h
  exact h
theorem hex0 (w : World) (mean : ExcName → Option Value) (mg mb : Str → Option Value) (news : List (Addr × Obj)) (t : Tok) : Clm w mean mg mb 19 news [.bytes #[] t] (fun t => .bytes #[] t) := by
  have h := hex_call w mean mg mb news t #[] (by decide)
  have e : enc (lawText #[] 0) = #[] := by simp [enc, lawText, lawL]
  rw [e] at h
  exact h
/-- an even text of the law's is short where its row is -/
theorem law_short {row : Array UInt8} {turn : Int} (h : row.size ≤ 32) : (lawText row turn).length ≤ 5592405 := by rw [lawText_length]; omega
theorem law_short' {row : Array UInt8} {turn : Int} (h : row.size ≤ 32) : (lawText row turn).length ≤ sizeLine := by rw [lawText_length, sizeLine_eq]; omega
theorem row_short {row : Array UInt8} (h : row.size ≤ 32) : row.size ≤ sizeLine := by rw [sizeLine_eq]; omega
theorem row_short2 {row : Array UInt8} (h : row.size ≤ 32) : 2 * row.size ≤ sizeLine := by rw [sizeLine_eq]; omega
theorem un_strL (w : World) (mean : ExcName → Option Value) (mg mb : Str → Option Value) (news : List (Addr × Obj)) (row : Array UInt8) (turn : Int) (t : Tok) (h : row.size ≤ 32) : Clm w mean mg mb 24 news [.str (lawText row turn) t] (fun t => .bytes row t) :=
  un_str w mean mg mb news _ t row (lawText_asc row turn) (good_law row turn) (law_short h) (row_short h)
theorem un_bytesL (w : World) (mean : ExcName → Option Value) (mg mb : Str → Option Value) (news : List (Addr × Obj)) (row : Array UInt8) (turn : Int) (t : Tok) (h : row.size ≤ 32) : Clm w mean mg mb 24 news [.bytes (enc (lawText row turn)) t] (fun t => .bytes row t) :=
  un_bytes w mean mg mb news _ t row (lawText_asc row turn) (good_law row turn) (law_short h) (law_short' h) (row_short h)

section
variable {prog : Program} {w : World} {A : Around} {E : Value → Shared → Prop} {s : Shared} {Q : Value → Shared → Prop}
theorem ne_same {b c : Array UInt8} {t u : Tok} (e : b = c) (h : Q (.bool false) s) : wpAny (model prog w) A (compareOp .NotEq (.bytes b t) (.bytes c u)) Q E s := by
  subst e
  refine ne_bytes ?_
  rw [bne_self_eq_false]
  exact h

theorem bytes_any {g : Heap} {L l : Addr} {m : Str → Option Value} {news : List (Addr × Obj)} {vs : List Value} {ns : List Int} (F : Fr g L s.heap m) (N : News g L s.heap news) (hl : s.heap.IsList l vs.toArray) (hi : IntsAre vs ns) (hr : ∀ n ∈ ns, 0 ≤ n ∧ n < 256) (hz : ns.length ≤ 32) (hh : A.handled = none)
    (h : ∀ h' t k b, b.size ≤ 32 → Fr g L h' m → News g L h' news → Q (.bytes b t) { s with heap := h', toks := k }) : wpAny (model prog w) A (call (.type "bytes") [.ref l]) Q E s :=
  bytes_K F N hl hi hr (by rw [hi.length, sizeLine_eq]; omega) hh fun h' t k F' N' _ => h h' t k _ (by simp; exact hz) F' N'
theorem mod_in {f : Int → Int} {ks : List Int} : ∀ n ∈ ks.map (fun k => (f k).fmod 256), 0 ≤ n ∧ n < 256 := by
  intro n hn
  obtain ⟨k, _, rfl⟩ := List.mem_map.mp hn
  exact ⟨Int.fmod_nonneg_of_pos _ (by decide), Int.fmod_lt_of_pos _ (by decide)⟩
theorem len33 {f : Int → Int} {a : Int} : ((rangeKs 0 (a.fmod 33 - 0).toNat).map f).length ≤ 32 := by
  rw [List.length_map, rangeKs_length]
  have := Int.fmod_lt_of_pos a (show (0 : Int) < 33 by decide)
  omega

theorem ty_encode : typeOf (.builtin "str.encode") = pure (.type "method_descriptor") := by show builtinType _ = _; rw [builtinType_eq_fast]; kernel_rfl
theorem gm_encode {M : Model} {x : Str} {t : Tok} {pl : Sem Bool} {Q : Value × List Value → Shared → Prop} (h : Q (.builtin "str.encode", [.str x t]) s) : wpAny M A (getMethod (.str x t) (Str.ofString "encode") pl) Q E s := by
  with_reducible exact GM.of (.str x t) (typeIs_str _ _ _) F.slot_str_encode ty_encode GM.noRef h
theorem encode_law {row : Array UInt8} {turn : Int} {t : Tok} (hz : row.size ≤ 32) (hQ : ∀ t' k, Q (.bytes (enc (lawText row turn)) t') { s with toks := k }) :
    wpAny (model prog w) A (call (.builtin "str.encode") [.str (lawText row turn) t]) Q E s := encode_asc (lawText_asc row turn) (law_short' hz) hQ

theorem ty_ty_bytes : typeOf (.type "bytes") = pure (.type "type") := by kernel_rfl
theorem sub_bytes : isSubtype (.type "bytes") (.type "bytes") = pure true := by rw [isSubtype_type]; kernel_rfl
theorem isi_bytes {b : Array UInt8} {t : Tok} (h : ∀ k, Q (.bool true) { s with toks := k }) : wpAny (model prog w) A (call (.builtin "isinstance") [.bytes b t, .type "bytes"]) Q E s :=
  call_isinstance (isinstance_true (Tx := "bytes") (T := "bytes") ty_ty_bytes sub_bytes) ⟨typeIs_bytes _ _ _, h _⟩
end
end Mine
end

section
open PySem PySem.W PyProof.Rows PySem.Calls
namespace MineR
section
variable {prog : Program} {w : World} {A₀ A : Around} {s : Shared} {base h₀ g₀ : Heap} {L a : Addr} {m : Str → Option Value} {env : Env} {news : List (Addr × Obj)} {K : Frag} {p : Program} {loose : List Str} {mean : ExcName → Option Value} {mg mb : Str → Option Value}
    {R : Result → Shared → Prop} {name qual : Str} {params : Arguments} {body : List Stmt} {scope : Scope} {dV kV doc pm cdv ct oc : Value} {an od : Option Addr} {osl : Array (Option Value)} {f : Addr} {args : Args} {binds : List (Str × Value)}

theorem enterX (B : Below A₀ base [] h₀) (F : Fr h₀ L s.heap m) (N : News h₀ L s.heap news) (hA : A.frames = some [env]) (hf : env.frame = some L) (hck : env.scope.kind = .function) :
    ∃ oL es ep, (hideAll s.heap (news.map (·.1))).get? L = some oL ∧ oL.data = .dict es ep ∧ (∀ (sl : Array (Option Value)) h', h'.get? L = some { oL with slots := sl } → Heap.Ns h' L m) ∧ (∀ h', h'.get? L = some oL → Heap.Ns h' L m) ∧
      h₀.StaysIn (hideAll s.heap (news.map (·.1))) ∧ Below A base [env] (hideAll s.heap (news.map (·.1))) := by
  have nm : ∀ b o, h₀.get? b = some o → b ∉ news.map (·.1) := fun b o e q => by
    obtain ⟨p, hp, rfl⟩ := List.mem_map.mp q
    rw [(N p hp).2.2] at e; cases e
  have st : h₀.StaysIn (hideAll s.heap (news.map (·.1))) := fun b o e => hideAll_get _ (F.keep b o e) (nm b o e)
  obtain ⟨oL, es, ep, hL, hLd, hLk, hLf⟩ := F.ns
  have nL : L ∉ news.map (·.1) := fun q => by
    obtain ⟨p, hp, e⟩ := List.mem_map.mp q
    exact (N p hp).2.1 e
  have hLg := hideAll_get (news.map (·.1)) hL nL
  have nLb : base.get? L = none := by
    cases q : base.get? L with
    | none => rfl
    | some o => have h1 := B.stays _ _ q; rw [kts_self F] at h1; cases h1
  refine ⟨oL, es, ep, hLg, hLd, fun sl h' e => ⟨_, es, ep, e, hLd, hLk, hLf⟩, fun h' e => ⟨oL, es, ep, e, hLd, hLk, hLf⟩, st, ⟨hA, fun b o e => st b o (B.stays b o e), ?_⟩⟩
  exact ⟨by rw [hck]; decide, ⟨L, oL, hf, nLb, hLg, fun vs q => by rw [hLd] at q; cases q⟩, trivial⟩

theorem defS0X (B : Below A₀ base [] h₀) (F : Fr h₀ L s.heap m) (X₀ : K.In h₀) (N : News h₀ L s.heap news) (T : Top p loose mean mg mb h₀) (hA : A.frames = some [env]) (hf : env.frame = some L)
    (ho : K.lookup f = some ⟨oc, od, .func (fnOf name qual params body scope dV kV doc pm an cdv ct), osl⟩) (hcd : codeIn K cdv qual = true) (hroom : A.depth < recursionLimit)
    (hbind : BindsTo s (fnOf name qual params body scope dV kV doc pm an cdv ct) args binds) (hloc : ∀ y ∈ binds, scope.names.lookup y.1 = some .local)
    (h : ∀ g L' h₁, Fr h₀ L g m → Fr g L' h₁ (fun y => binds.reverse.lookup y) → News g L' h₁ news → Below A base [env] g → K.In g → Top p loose mean mg mb g → KtsDicts ([env].filterMap (·.frame)) g →
      wpAny (model prog w) (A.deeper (envOf qual scope L' f cdv)) (execs body (envOf qual scope L' f cdv))
        (fun fl s' => LeaveS0 ([env].filterMap (·.frame)) h₀ L m g R (match fl with | .ret v => v | _ => .none) s')
        (fun e s' => wpAny (model prog w) (A.deeper (envOf qual scope L' f cdv)) (leaving (envOf qual scope L' f cdv) e) (fun _ s'' => R (.error e) s'') (fun e' s'' => R (.error e') s'') s')
        { s with heap := h₁, toks := s.toks + binds.length })
    (hck : env.scope.kind = .function) (hco : scope.isCoroutine = false) (hgen : scope.isGenerator = false) (hk : scope.kind = .function)
    (hcell : ∀ x ∈ scope.names, x.2 ≠ .cell) : codeAny (model prog w) A (.call (.ref f) args) R s := by
  have X := X₀.keeps F.keep
  have hmem : ∀ {b}, b ∈ [env].filterMap (·.frame) → b = L := fun hb => by
    rw [List.filterMap_cons, hf] at hb
    simpa using hb
  refine codeAny_call_def (fd := fnOf name qual params body scope dV kV doc pm an cdv ct) (body := body) (binds := binds) hroom (X _ _ ho) rfl (T.nolimit.keeps F.keep) (codeRec_of X hcd) rfl hbind hcell hloc (fun h₁ hns hk₁ => ?_) hco hgen hk
  obtain ⟨oL, es, ep, hLg, hLd, hNs, hN, st, B₂⟩ := enterX (A := A) B F N hA hf hck
  refine wpAny_mono (h _ s.heap.objs.size h₁ ⟨hN _ hLg, st, F.above⟩ ⟨hns, fun b o e => hk₁ b o (of_hideAll _ e), Nat.le_of_eq (hideAll_size _ _)⟩
    (fun p hp => ⟨hk₁ _ _ (N p hp).1, Nat.ne_of_lt (Heap.lt_size (N p hp).1), hideAll_none _ (List.mem_map_of_mem hp)⟩) B₂ (X₀.keeps st) (T.keeps st) (fun b hb => by
      rw [hmem hb]
      exact ⟨oL, es, ep, hLg, hLd⟩)) (fun fl s' hl => ?_) fun _ _ y => y
  obtain ⟨g', L', m', news', T', F', N', k⟩ := hl
  have nL₀ : h₀.get? L = none := kts_self F
  obtain ⟨sl, hs⟩ := T'.up hLg
  refine k ⟨hNs sl _ (F'.keep _ _ hs), fun b o e => F'.keep b o (T'.other b o (st b o e) (fun q => by
    rw [hmem q, nL₀] at e
    cases e)), F.above⟩ fun p hp => ⟨(N' p hp).1, fun q => ?_, ?_⟩
  · have := (N' p hp).2.2; rw [q, hs] at this; cases this
  · cases q : h₀.get? p.1 with
    | none => rfl
    | some o =>
      obtain ⟨sl', hs'⟩ := T'.up (st _ _ q)
      have := (N' p hp).2.2
      rw [hs'] at this
      cases this
end
end MineR
end

section
open PySem PySem.W PyProof.Rows
namespace MineR
open Mine Mine2
abbrev ClmR (w : World) (mean : ExcName → Option Value) (mg mb : Str → Option Value) (f : Addr) (news : List (Addr × Obj)) (vs : List Value) : Prop :=
  ∀ (dp un : Nat) (gd : Option (List Code)) (cn : Str) (cs : Scope) (a : Addr) (ccd : Value) (cl : List (Str × Addr)) (A₀ : Around) (base h₀ : Heap) (L : Addr) (m : Str → Option Value) (s : Shared) (Q E : Value → Shared → Prop),
    Below A₀ base [] h₀ → Fr h₀ L s.heap m → (hd.heap_39 w.params).In base → Top hd.view_39 (looseW hd.view_39 []) mean mg mb base → (hd.heap_39 w.params).In h₀ → News h₀ L s.heap news → Top hd.view_39 (looseW hd.view_39 []) mean mg mb h₀ → cs.kind = .function → dp + 2 < recursionLimit → un + 16 < cLine →
    (∀ (h' : Heap) (tk' : Nat), Fr h₀ L h' m → News h₀ L h' news → Q (.bool true) { s with heap := h', toks := tk' }) →
      wpAny (model PySem.Challenge.rw_ft5009_01.row.prog w) (ktrTop dp un gd cn cs L a ccd cl []) (call (.ref f) vs) Q E s

local macro_rules | `(tactic| walk_at "mine pad B21 0") => `(tactic| skip)
local macro_rules | `(tactic| walk_at "mine pad B21 1") => `(tactic| skip)
local macro_rules | `(tactic| walk_at "mine pad B21 2") => `(tactic| skip)
local macro_rules | `(tactic| walk_at "mine pad B21 3") => `(tactic| skip)
local macro_rules | `(tactic| walk_at "call ref") => `(tactic| (k_here; (with_reducible show wpAny _ _ (call (Value.ref 24) [Value.str _ _]) _ _ _); k_dflt (refine' bad_str _ _ _ _ _ _ _ _ ?hA ?hB ?hL ?hz _ _ _ _ _ _ _ _ _ _ _ _ _ _ _ _ _ ?k1 ?k2 ?k3 ?k4 ?k5 ?kK ?kd ?ku ?_; (case hA => assumption); (case hB => assumption); (case hL => assumption); (case hz => assumption); (case k1 => k_asm); (case k2 => k_asm); (case k3 => k_asm); (case k4 => k_asm); (case k5 => k_asm); (case kK => first | exact rfl | assumption); (case kd => ktr_room); (case ku => ktr_units)); intro e9 G9 h9 tk9 F9 R9 S9; (try dsimp only)))
local macro_rules | `(tactic| walk_at "call ref") => `(tactic| (k_here; (with_reducible show wpAny _ _ (call (Value.ref 24) [Value.bytes (enc _) _]) _ _ _); k_dflt (refine' bad_bytes _ _ _ _ _ _ _ _ ?hA ?hB ?hL ?hL2 ?hz _ _ _ _ _ _ _ _ _ _ _ _ _ _ _ _ _ ?k1 ?k2 ?k3 ?k4 ?k5 ?kK ?kd ?ku ?_; (case hA => assumption); (case hB => assumption); (case hL => assumption); (case hL2 => assumption); (case hz => assumption); (case k1 => k_asm); (case k2 => k_asm); (case k3 => k_asm); (case k4 => k_asm); (case k5 => k_asm); (case kK => first | exact rfl | assumption); (case kd => ktr_room); (case ku => ktr_units)); intro e9 G9 h9 tk9 F9 R9 S9; (try dsimp only)))
local macro_rules | `(tactic| walk_at "getMethod str") => `(tactic| with_reducible refine gm_encode ?_)
local macro_rules | `(tactic| walk_at "call builtin:str.encode") => `(tactic| (refine encode_asc (by assumption) (by assumption) ?_; intro t7 k7))

theorem refuse_call (w : World) (mean : ExcName → Option Value) (mg mb : Str → Option Value) (news : List (Addr × Obj)) (x : Str) (t : Tok) (n : Nat) (hA : Asc x) (hB : BadT (low x) n) (hL : x.length ≤ 5592405) (hL2 : x.length ≤ sizeLine) (hz : n ≤ sizeLine) :
    ClmR w mean mg mb 45 news [.str x t] := by
  unfold ClmR
  k_fill
  intros
  rename_i hret
  refine wpAny_call ?_
  k_dflt (refine' defS0X ?k1 ?k2 ?k3 ?k4 ?k5 ?kA ?kf ?k6 ?k7 ?k8 ?k9 ?kB ?_ ?cK ?c2 ?c3 ?c4 ?c5; (case kA => exact rfl); (case kf => exact rfl); (case k2 => k_asm); (case k1 => k_asm); (case k3 => k_asm); (case k4 => k_asm); (case k5 => k_asm); (case k6 => k_is); (case k7 => k_is); (case k8 => ktr_room); (case k9 => exact BindsTo.of_eq rfl); (case kB => exact locs rfl); (case cK => assumption); (case c2 => exact rfl); (case c3 => exact rfl); (case c4 => exact rfl); (case c5 => decide); k_whole; intro g' L' h' FG' F' N' B' X' T' D'; (try dsimp only); (try k_fold))
  repeat' (first | (k_unfold; (try dsimp only)) | walk1 | (dsimp only; walk1) | fail "no step")
  all_goals exact hret _ _ (by assumption) (by assumption)
end MineR
end

section
open PySem PySem.W PyProof.Rows PySem.Calls
namespace Mine
open PySem.Builtin

/-! ### a foreign sign in a text -/
theorem sliceRange_one (a b : Nat) (h : a ≤ b) : sliceRange (a : Int) (b : Int) 1 = (List.range (b - a)).map fun k => a + k := by
  unfold sliceRange
  rw [if_pos (by decide)]
  by_cases hab : (a : Int) < (b : Int)
  · rw [if_pos hab]
    have h2 : (((b : Int) - (a : Int) + 1 - 1) / 1).toNat = b - a := by omega
    simp only [h2]
    refine List.map_congr_left fun k _ => ?_
    omega
  · rw [if_neg hab]
    have : b - a = 0 := by omega
    rw [this]; rfl
theorem slice_upto (p n : Nat) (h : p ≤ n) : Str.strSliceIndices none (some (p : Int)) 1 n = (List.range p).map fun k => 0 + k := by
  unfold Str.strSliceIndices
  simp only []
  have e : (max (0 : Int) (min (if (p : Int) < 0 then (p : Int) + (n : Int) else (p : Int)) (n : Int))) = ((p : Nat) : Int) := by
    rw [if_neg (by omega)]; omega
  simp only [show ((1 : Int) > 0) = True by simp, if_true]
  rw [e]
  exact (sliceRange_one 0 p (Nat.zero_le _))
theorem slice_from (p n : Nat) (h : p ≤ n) : Str.strSliceIndices (some (p : Int)) none 1 n = (List.range (n - p)).map fun k => p + k := by
  unfold Str.strSliceIndices
  simp only []
  have e : (max (0 : Int) (min (if (p : Int) < 0 then (p : Int) + (n : Int) else (p : Int)) (n : Int))) = ((p : Nat) : Int) := by
    rw [if_neg (by omega)]; omega
  simp only [show ((1 : Int) > 0) = True by simp, if_true]
  rw [e]
  exact (sliceRange_one p n h)
def piece (x : Str) (a n : Nat) : List Nat := (List.range n).map fun k => x.cps.getD (a + k) 0
theorem piece_is (x : Str) (a n : Nat) (h : a + n ≤ x.length) : (((List.range n).map fun k => a + k).filterMap (x.cps[·]?)) = piece x a n := by
  rw [List.filterMap_map]
  refine filterMap_all _ _ _ fun k hk => ?_
  have hk' : k < n := List.mem_range.mp hk
  have hs : x.cps.size = x.length := rfl
  have hlt : a + k < x.cps.size := by omega
  show x.cps[a + k]? = some (x.cps.getD (a + k) 0)
  simp [Array.getD, hlt]
def mixT (x : Str) (p c : Nat) : Str := ⟨(piece x 0 p ++ c :: piece x (p + 1) (x.length - (p + 1))).toArray⟩
theorem piece_length (x : Str) (a n : Nat) : (piece x a n).length = n := by simp [piece]
theorem mixT_length (x : Str) (p c : Nat) (h : p < x.length) : (mixT x p c).length = x.length := by
  show (piece x 0 p ++ c :: piece x (p + 1) (x.length - (p + 1))).toArray.size = _
  rw [List.size_toArray, List.length_append, List.length_cons, piece_length, piece_length]
  omega
theorem piece_asc {x : Str} (h : Asc x) (a n : Nat) : ∀ c ∈ piece x a n, c < 128 := by
  intro c hc
  simp only [piece, List.mem_map] at hc
  obtain ⟨k, _, rfl⟩ := hc
  exact getD_asc h _
theorem mixT_asc {x : Str} (h : Asc x) {p c : Nat} (hc : c < 128) : Asc (mixT x p c) := by
  intro d hd
  have hd' : d ∈ piece x 0 p ++ c :: piece x (p + 1) (x.length - (p + 1)) := by simpa [mixT] using hd
  rcases List.mem_append.mp hd' with q | q
  · exact piece_asc h _ _ d q
  · rcases List.mem_cons.mp q with rfl | q
    · exact hc
    · exact piece_asc h _ _ d q
theorem mixT_at (x : Str) (p c : Nat) : (mixT x p c).cps.getD p 0 = c := by
  refine getD_of ?_
  rw [List.getElem?_append_right (by rw [piece_length]; exact Nat.le_refl _), piece_length, Nat.sub_self]
  rfl
theorem mix_bad {row : Array UInt8} {p c : Nat} (hp : p < 2 * row.size) (hc : c < 128) (hb : hv (lo1 c) = none) : BadT (low (mixT (lawText row 0) p c)) row.size where
  asc := low_asc (mixT_asc (lawText_asc row 0) hc)
  len := by rw [low_length, mixT_length _ _ _ (by rw [lawText_length]; exact hp), lawText_length]
  bad := ⟨p, hp, by rw [low_getD _ (by rw [mixT_length _ _ _ (by rw [lawText_length]; exact hp), lawText_length]; exact hp), mixT_at]; exact hb⟩

abbrev frS : Str := Str.ofString "gG -x/:"
def frnS (i : Int) : Str := ⟨#[frn i.toNat]⟩
theorem fr_item : ∀ d : Nat, d < 7 → Txt.item frS (d : Int) = ⟨#[frn d]⟩ := by decide +kernel
theorem fr_len : frS.length = 7 := by decide +kernel

section
variable {prog : Program} {w : World} {A : Around} {E : Value → Shared → Prop} {s : Shared} {env : Env} {m : Str → Option Value} {Q : Value → Shared → Prop}

theorem fr_sub {value slice : Expr} {i : Int} {t u : Tok} (h : ∀ t tk, Q (.str (frnS (i.fmod 7)) t) { s with toks := tk })
    (hs : subscripted slice false (.str frS t) (.int (i.fmod 7) u) = operate [.str frS t, .int (i.fmod 7) u] (getItem (.str frS t) (.int (i.fmod 7) u)) := by with_unfolding_all rfl)
    (ht : ∀ r, letTemporaryGo value (.str frS t) r = pure () := by intro _; with_unfolding_all rfl) :
    wpAny (model prog w) A (subscriptTail value slice (.str frS t) (.int (i.fmod 7) u)) Q E s := by
  have h0 := Int.fmod_nonneg_of_pos i (show (0 : Int) < 7 by decide)
  have h1 := Int.fmod_lt_of_pos i (show (0 : Int) < 7 by decide)
  refine item_str (fitsSsize_of (N := 9223372036854775808) (by omega) (by omega) (Int.le_refl _)) (by rw [fr_len]; omega) (by rw [fr_len]; omega) (fun _ => ?_) hs ht
  have e : i.fmod 7 = (((i.fmod 7).toNat : Nat) : Int) := by omega
  have h2 := fr_item (i.fmod 7).toNat (by omega)
  rw [← e] at h2
  rw [h2]
  exact h _ _

abbrev mixE : Expr := .BinOp (.BinOp (.Subscript (.Name (Str.ofString "plain") ⟨50, 28, 50, 33⟩) (.Slice none (some (.Name (Str.ofString "place") ⟨50, 35, 50, 40⟩)) none ⟨50, 34, 50, 40⟩) ⟨50, 28, 50, 41⟩) .Add (.Name (Str.ofString "foreign") ⟨50, 44, 50, 51⟩) ⟨50, 28, 50, 51⟩) .Add
  (.Subscript (.Name (Str.ofString "plain") ⟨50, 54, 50, 59⟩) (.Slice (some (.BinOp (.Name (Str.ofString "place") ⟨50, 60, 50, 65⟩) .Add (.Constant (.int 1) 0 ⟨50, 68, 50, 69⟩) ⟨50, 60, 50, 69⟩)) none none ⟨50, 60, 50, 70⟩) ⟨50, 54, 50, 71⟩) ⟨50, 28, 50, 71⟩

theorem mix_eval {x : Str} {p c : Nat} {t1 t2 t3 : Tok} (hk : env.scope.kind = .function) (hl1 : env.kindOf (Str.ofString "plain") = some .local) (hl2 : env.kindOf (Str.ofString "place") = some .local) (hl3 : env.kindOf (Str.ofString "foreign") = some .local)
    (hn : s.heap.Ns env.locals m) (hm1 : m (Str.ofString "plain") = some (.str x t1)) (hm2 : m (Str.ofString "place") = some (.int (p : Int) t2)) (hm3 : m (Str.ofString "foreign") = some (.str ⟨#[c]⟩ t3)) (hp : p < x.length) (hL : x.length ≤ 1000)
    (h : ∀ h' t tk, (∀ b o, s.heap.get? b = some o → h'.get? b = some o) → Q (.str (mixT x p c) t) { s with heap := h', toks := tk }) :
    wpAny (model prog w) A (eval mixE env) Q E s := by
  have hz : sizeLine = 16777216 := sizeLine_eq
  refine wpAny_BinOp ?_
  refine wpAny_BinOp ?_
  refine wpAny_Subscript_str_slice ?_
  refine wpAny_Name (wpAny_loadName_local hk hl1 (by exact hn) hm1 ?_)
  rw [evalPart_none, evalPart_some]
  refine wpAny_pure ?_
  refine wpAny_Name (wpAny_loadName_local hk hl2 (by exact hn) hm2 ?_)
  refine ⟨x, t1, none, some ((p : Int), t2), rfl, rfl, rfl, ?_⟩
  have e0 : sliceMade x t1 none (some ((p : Int), t2)) none = .str ⟨(piece x 0 p).toArray⟩ := by
    have hpk : slicePicked x none (some ((p : Int), t2)) none = (List.range p).map fun k => 0 + k := slice_upto p x.length (by omega)
    unfold sliceMade
    rw [hpk, if_neg (by simp; omega), piece_is x 0 p (by omega)]
  rw [e0]
  refine ⟨by show (piece x 0 p).toArray.size ≤ _; rw [List.size_toArray, piece_length]; omega, ?_⟩
  refine wpAny_Name (wpAny_loadName_local hk hl3 (by exact hn.push _) hm3 ?_)
  refine PyProof.Rows.add_str (fun t4 tk4 => ?_) (by show (piece x 0 p).toArray.size + 1 ≤ _; rw [List.size_toArray, piece_length]; omega)
  refine wpAny_Subscript_str_slice ?_
  refine wpAny_Name (wpAny_loadName_local hk hl1 (by exact hn.push _) hm1 ?_)
  rw [evalPart_none, evalPart_some]
  refine wpAny_BinOp ?_
  refine wpAny_Name (wpAny_loadName_local hk hl2 (by exact hn.push _) hm2 ?_)
  refine wpAny_Constant_int ?_
  refine PyProof.Rows.add_int ?_
  refine wpAny_pure ?_
  refine ⟨x, t1, some ((p : Int) + 1, _), none, rfl, rfl, rfl, ?_⟩
  have e1 : ∀ u, sliceMade x t1 (some ((p : Int) + 1, u)) none none = .str ⟨(piece x (p + 1) (x.length - (p + 1))).toArray⟩ := by
    intro u
    have hpk : slicePicked x (some ((p : Int) + 1, u)) none none = (List.range (x.length - (p + 1))).map fun k => (p + 1) + k := slice_from (p + 1) x.length (by omega)
    unfold sliceMade
    rw [hpk, if_neg (by simp; omega), piece_is x (p + 1) (x.length - (p + 1)) (by omega)]
  rw [e1]
  refine ⟨by show (piece x (p + 1) (x.length - (p + 1))).toArray.size ≤ _; rw [List.size_toArray, piece_length]; omega, ?_⟩
  refine PyProof.Rows.add_str (fun t5 tk5 => ?_) ?_
  · have e2 : ((⟨(piece x 0 p).toArray⟩ : Str) ++ (⟨#[c]⟩ : Str) ++ (⟨(piece x (p + 1) (x.length - (p + 1))).toArray⟩ : Str)) = mixT x p c := by
      apply Str.ext'
      rw [Str.cps_append, Str.cps_append]
      show (piece x 0 p).toArray ++ #[c] ++ (piece x (p + 1) (x.length - (p + 1))).toArray = (piece x 0 p ++ c :: piece x (p + 1) (x.length - (p + 1))).toArray
      simp
    rw [e2]
    exact h _ _ _ fun b o q => Heap.get?_push_of_some _ (Heap.get?_push_of_some _ q)
  · rw [Str.length_append]
    show (piece x 0 p).toArray.size + 1 + (piece x (p + 1) (x.length - (p + 1))).toArray.size ≤ _
    rw [List.size_toArray, List.size_toArray, piece_length, piece_length]
    omega
end
end Mine
end

section
open PySem PySem.W PyProof.Rows
namespace Mine
open Mine2 MineR
section
variable {prog : Program} {w : World} {A : Around} {E : Value → Shared → Prop} {s : Shared} {env : Env} {m : Str → Option Value} {Q : Value → Shared → Prop}

theorem if_join {e : Expr} (h1 : wpAny (model prog w) A (eval e env) (fun v s' => ∃ b t k, v = .bytes b t ∧ 1 ≤ b.size ∧ b.size ≤ 32 ∧ s' = { s with toks := k }) E s)
    (h : ∀ b t k, 1 ≤ b.size → b.size ≤ 32 → Q (.bytes b t) { s with toks := k }) : wpAny (model prog w) A (eval e env) Q E s :=
  wpAny_mono h1 (fun _ _ hq => by obtain ⟨b, t, k, rfl, p, q, rfl⟩ := hq; exact h b t k p q) (fun _ _ e => e)

theorem len_law {row : Array UInt8} {turn : Int} {t : Tok} (hz : row.size ≤ 32) (h : ∀ t k, Q (.int (2 * (row.size : Int)) t) { s with toks := k }) : wpAny (model prog w) A (call (.builtin "len") [.str (lawText row turn) t]) Q E s := by
  have e := lawText_length row turn
  refine len_str (by rw [e]; omega) ?_
  rw [e]
  exact h _ _

theorem frn_lt (i : Int) : frn (i.fmod 7).toNat < 128 := And.right (frn_bad _ (by
  have h0 := Int.fmod_nonneg_of_pos i (show (0 : Int) < 7 by decide)
  have h1 := Int.fmod_lt_of_pos i (show (0 : Int) < 7 by decide)
  omega))

theorem mixK {g : Heap} {L : Addr} {news : List (Addr × Obj)} {row : Array UInt8} {q i : Int} {t1 t2 t3 : Tok} (F : Fr g L s.heap m) (N : News g L s.heap news) (hk : env.scope.kind = .function) (hl1 : env.kindOf (Str.ofString "plain") = some .local) (hl2 : env.kindOf (Str.ofString "place") = some .local) (hl3 : env.kindOf (Str.ofString "foreign") = some .local)
    (hL : env.locals = L) (hm1 : m (Str.ofString "plain") = some (.str (lawText row 0) t1)) (hm2 : m (Str.ofString "place") = some (.int q t2)) (hm3 : m (Str.ofString "foreign") = some (.str (frnS (i.fmod 7)) t3)) (h0 : 0 ≤ q) (h1 : q < 2 * (row.size : Int)) (hz : row.size ≤ 32)
    (h : ∀ h' t tk, Fr g L h' m → News g L h' news → Q (.str (mixT (lawText row 0) q.toNat (frn (i.fmod 7).toNat)) t) { s with heap := h', toks := tk }) :
    wpAny (model prog w) A (eval mixE env) Q E s := by
  have e := lawText_length row 0
  refine mix_eval (x := lawText row 0) (p := q.toNat) (c := frn (i.fmod 7).toNat) hk hl1 hl2 hl3 (by rw [hL]; exact F.ns) hm1 (t2 := t2) ?_ hm3 (by rw [e]; omega) (by rw [e]; omega) fun h' t tk up => h h' t tk (F.keeps up) (fun q hq => ⟨up _ _ (N q hq).1, (N q hq).2⟩)
  rw [hm2]
  have : ((q.toNat : Nat) : Int) = q := by omega
  rw [this]

theorem refuse_law (w : World) (mean : ExcName → Option Value) (mg mb : Str → Option Value) (news : List (Addr × Obj)) (row : Array UInt8) (q i : Int) (t : Tok) (h0 : 0 ≤ q) (h1 : q < 2 * (row.size : Int)) (hz : row.size ≤ 32) :
    ClmR w mean mg mb 45 news [.str (mixT (lawText row 0) q.toNat (frn (i.fmod 7).toNat)) t] := by
  have g0 := Int.fmod_nonneg_of_pos i (show (0 : Int) < 7 by decide)
  have g1 := Int.fmod_lt_of_pos i (show (0 : Int) < 7 by decide)
  have e := lawText_length row 0
  have el : (mixT (lawText row 0) q.toNat (frn (i.fmod 7).toNat)).length = 2 * row.size := by
    rw [mixT_length _ _ _ (by rw [e]; omega), e]
  exact refuse_call w mean mg mb news _ t row.size (mixT_asc (lawText_asc row 0) (frn_lt i)) (mix_bad (by omega) (frn_lt i) (frn_bad _ (by omega)).1) (by rw [el]; omega) (by rw [el, sizeLine_eq]; omega) (by rw [sizeLine_eq]; omega)
end
end Mine
end

section
open PySem PySem.W PyProof.Rows Mine Mine2 MineR
local macro_rules | `(tactic| walk_at "call ref") => `(tactic| (k_here; (with_reducible show wpAny _ _ (call (Value.ref 19) [Value.bytes _ _]) _ _ _); k_dflt (refine' hex_call _ _ _ _ _ _ _ (row_short2 (by first | assumption | decide)) _ _ _ _ _ _ _ _ _ _ _ _ _ _ _ _ _ ?k1 ?k2 ?k3 ?k4 ?k5 ?kK ?kd ?ku ?_; (case k1 => k_asm); (case k2 => k_asm); (case k3 => k_asm); (case k4 => k_asm); (case k5 => k_asm); (case kK => first | exact rfl | assumption); (case kd => ktr_room); (case ku => ktr_units)); intro t9 h9 tk9 F9 N9; (try dsimp only); (try k_fold)))
local macro_rules | `(tactic| walk_at "call ref") => `(tactic| (k_here; (with_reducible show wpAny _ _ (call (Value.ref 38) [Value.bytes _ _, Value.int _ _]) _ _ _); k_dflt (refine' text_call _ _ _ _ _ _ _ _ _ (row_short2 (by first | assumption | decide)) _ _ _ _ _ _ _ _ _ _ _ _ _ _ _ _ _ ?k1 ?k2 ?k3 ?k4 ?k5 ?kK ?kd ?ku ?_; (case k1 => k_asm); (case k2 => k_asm); (case k3 => k_asm); (case k4 => k_asm); (case k5 => k_asm); (case kK => first | exact rfl | assumption); (case kd => ktr_room); (case ku => ktr_units)); intro t9 h9 tk9 F9 N9; (try dsimp only); (try k_fold)))
local macro_rules | `(tactic| walk_at "call ref") => `(tactic| (k_here; (with_reducible show wpAny _ _ (call (Value.ref 24) [Value.str (lawText _ _) _]) _ _ _); k_dflt (refine' un_strL _ _ _ _ _ _ _ _ (by first | assumption | decide) _ _ _ _ _ _ _ _ _ _ _ _ _ _ _ _ _ ?k1 ?k2 ?k3 ?k4 ?k5 ?kK ?kd ?ku ?_; (case k1 => k_asm); (case k2 => k_asm); (case k3 => k_asm); (case k4 => k_asm); (case k5 => k_asm); (case kK => first | exact rfl | assumption); (case kd => ktr_room); (case ku => ktr_units)); intro t9 h9 tk9 F9 N9; (try dsimp only); (try k_fold)))
local macro_rules | `(tactic| walk_at "call ref") => `(tactic| (k_here; (with_reducible show wpAny _ _ (call (Value.ref 24) [Value.bytes (enc (lawText _ _)) _]) _ _ _); k_dflt (refine' un_bytesL _ _ _ _ _ _ _ _ (by first | assumption | decide) _ _ _ _ _ _ _ _ _ _ _ _ _ _ _ _ _ ?k1 ?k2 ?k3 ?k4 ?k5 ?kK ?kd ?ku ?_; (case k1 => k_asm); (case k2 => k_asm); (case k3 => k_asm); (case k4 => k_asm); (case k5 => k_asm); (case kK => first | exact rfl | assumption); (case kd => ktr_room); (case ku => ktr_units)); intro t9 h9 tk9 F9 N9; (try dsimp only); (try k_fold)))
local macro_rules | `(tactic| walk_at "call ref") => `(tactic| (k_here; (with_reducible show wpAny _ _ (call (Value.ref 24) [Value.str (Str.ofString "") _]) _ _ _); k_dflt (refine' un_str0 _ _ _ _ _ _ _ _ _ _ _ _ _ _ _ _ _ _ _ _ _ _ _ ?k1 ?k2 ?k3 ?k4 ?k5 ?kK ?kd ?ku ?_; (case k1 => k_asm); (case k2 => k_asm); (case k3 => k_asm); (case k4 => k_asm); (case k5 => k_asm); (case kK => first | exact rfl | assumption); (case kd => ktr_room); (case ku => ktr_units)); intro t9 h9 tk9 F9 N9; (try dsimp only); (try k_fold)))
local macro_rules | `(tactic| walk_at "call ref") => `(tactic| (k_here; (with_reducible show wpAny _ _ (call (Value.ref 24) [Value.bytes (List.toArray []) _]) _ _ _); k_dflt (refine' un_bytes0 _ _ _ _ _ _ _ _ _ _ _ _ _ _ _ _ _ _ _ _ _ _ _ ?k1 ?k2 ?k3 ?k4 ?k5 ?kK ?kd ?ku ?_; (case k1 => k_asm); (case k2 => k_asm); (case k3 => k_asm); (case k4 => k_asm); (case k5 => k_asm); (case kK => first | exact rfl | assumption); (case kd => ktr_room); (case ku => ktr_units)); intro t9 h9 tk9 F9 N9; (try dsimp only); (try k_fold)))
local macro_rules | `(tactic| walk_at "call ref") => `(tactic| (k_here; (with_reducible show wpAny _ _ (call (Value.ref 19) [Value.bytes (List.toArray []) _]) _ _ _); k_dflt (refine' hex0 _ _ _ _ _ _ _ _ _ _ _ _ _ _ _ _ _ _ _ _ _ _ _ ?k1 ?k2 ?k3 ?k4 ?k5 ?kK ?kd ?ku ?_; (case k1 => k_asm); (case k2 => k_asm); (case k3 => k_asm); (case k4 => k_asm); (case k5 => k_asm); (case kK => first | exact rfl | assumption); (case kd => ktr_room); (case ku => ktr_units)); intro t9 h9 tk9 F9 N9; (try dsimp only); (try k_fold)))
local macro_rules | `(tactic| walk_at "compareOp NotEq bytes bytes") => `(tactic| (refine ne_same ?e ?_; (case e => first | rfl | assumption)))
local macro_rules | `(tactic| walk_at "call type:bytes") => `(tactic| (k_here; (with_reducible show wpAny _ _ (call (Value.type _) [Value.ref _]) _ _ _); k_dflt (refine' bytes_any ?F ?N ?l ?i mod_in len33 ?h ?_; (case F => k_asm); (case N => k_asm); (case l => is_list); (case i => assumption); (case h => with_unfolding_all rfl)); intro h9 t9 k9 b9 hb9 F9 N9; (try dsimp only); (try k_fold)))
local macro_rules | `(tactic| walk_at "getMethod str") => `(tactic| with_reducible refine gm_encode ?_)
local macro_rules | `(tactic| walk_at "call builtin:str.encode") => `(tactic| (k_here; (refine encode_law (by first | assumption | decide) ?_); intro t9 k9))
local macro_rules | `(tactic| walk_at "call builtin:isinstance") => `(tactic| (k_here; (with_reducible show wpAny _ _ (call (Value.builtin "isinstance") [Value.bytes _ _, Value.type "bytes"]) _ _ _); refine isi_bytes ?_; intro k9))
local macro_rules | `(tactic| walk_at "eval IfExp Compare Name Constant") => `(tactic| (refine if_join ?h1 ?_; (case h1 => refine PyProof.Rows.IfExp_ ?_; repeat' (first | (with_reducible refine ⟨_, _, _, rfl, ?_, ?_, rfl⟩ <;> first | assumption | decide | omega) | walk1 | (dsimp only; walk1))); intro b9 t9 k9 hb1 hb9))
local macro_rules | `(tactic| walk_at "call builtin:len") => `(tactic| (k_here; (with_reducible show wpAny _ _ (call (Value.builtin "len") [Value.str (lawText _ _) _]) _ _ _); refine len_law (by assumption) ?_; intro t9 k9))
local macro_rules | `(tactic| walk_at "subscriptTail Name BinOp str int") => `(tactic| (refine fr_sub ?_; intro t9 k9))
local macro_rules | `(tactic| walk_at "eval BinOp BinOp Add Subscript") => `(tactic| (k_dflt (refine' mixK ?F ?N ?k ?l1 ?l2 ?l3 ?L ?m1 ?m2 ?m3 ?h0 ?h1 ?z ?_; (case F => assumption); (case N => assumption); (case k => rfl); (case l1 => rfl); (case l2 => rfl); (case l3 => rfl); (case L => rfl); (case m1 => with_unfolding_all rfl); (case m2 => with_unfolding_all rfl); (case m3 => with_unfolding_all rfl); (case h0 => first | omega | exact Int.fmod_nonneg_of_pos _ (by omega)); (case h1 => first | omega | exact Int.fmod_lt_of_pos _ (by omega)); (case z => assumption)); intro h9 t9 k9 F9 N9; (try dsimp only); (try k_fold)))
local macro_rules | `(tactic| walk_at "call ref") => `(tactic| (k_here; (with_reducible show wpAny _ _ (call (Value.ref 45) [Value.str (mixT _ _ _) _]) _ _ _); k_dflt (refine' refuse_law _ _ _ _ _ _ _ _ _ ?h0 ?h1 ?z _ _ _ _ _ _ _ _ _ _ _ _ _ _ _ _ ?k1 ?k2 ?k3 ?kB ?kT ?k4 ?k5 ?kK ?kd ?ku ?_; (case h0 => first | omega | exact Int.fmod_nonneg_of_pos _ (by omega)); (case h1 => first | omega | exact Int.fmod_lt_of_pos _ (by omega)); (case z => assumption); (case k1 => k_asm); (case k2 => k_asm); (case k3 => k_asm); (case kB => k_asm); (case kT => k_asm); (case k4 => k_asm); (case k5 => k_asm); (case kK => first | exact rfl | assumption); (case kd => ktr_room); (case ku => ktr_units)); intro h9 tk9 F9 N9; (try dsimp only); (try k_fold)))
set_option maxRecDepth 100000 in
set_option maxHeartbeats 80000000 in
theorem PySem.Challenge.cw_ft5009_01_holds : PySem.Challenge.rw_ft5009_01.Holds := by
  k_with "call ref" => k_call_by "_law_at" lawAt (fun (_ : List Int) p => 0 ≤ p)
  k_with "tree" => simp only [lawAt]
  refine hd ?_
  k_go0
  all_goals try k_fold
  repeat' (first | (k_end; kc_close) | walk1 | (dsimp only; walk1) | (k_unfold; (try dsimp only)) | (leave1; walk_say "STEP leave1"; (try dsimp only)) | fail "no step")
end
