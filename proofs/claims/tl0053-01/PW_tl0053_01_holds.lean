import PyProof.Rows.All
import Wide.All
import OpenK.AllK
import Wide.FinOn
import PySem.Challenge.RW_tl0053_01
open PySem PySem.Spec PySem.Calls PyProof.Rows PySem.W
set_option Elab.async false
set_option linter.unusedVariables false
set_option compiler.extract_closed false
set_option tactic.hygienic false
set_option maxRecDepth 100000
set_option maxHeartbeats 4000000
namespace Mine

def aRfl : Lean.Syntax := (Lean.Unhygienic.run `(Lean.Parser.Tactic.tacticSeq| rfl)).raw
def aI : Lean.Syntax := (Lean.Unhygienic.run `(Lean.Parser.Tactic.tacticSeq| intro _; rfl)).raw
def aU : Lean.Syntax := (Lean.Unhygienic.run `(Lean.Parser.Tactic.tacticSeq| with_unfolding_all rfl)).raw
def aNo : Lean.Syntax := (Lean.Unhygienic.run `(Lean.Parser.Tactic.tacticSeq| nofun)).raw
def aIU : Lean.Syntax := (Lean.Unhygienic.run `(Lean.Parser.Tactic.tacticSeq| intro _; with_unfolding_all rfl)).raw
def aIs : Lean.Syntax := (Lean.Unhygienic.run `(Lean.Parser.Tactic.tacticSeq| intros; rfl)).raw
def aIIU : Lean.Syntax := (Lean.Unhygienic.run `(Lean.Parser.Tactic.tacticSeq| intro _ _; with_unfolding_all rfl)).raw
def aII : Lean.Syntax := (Lean.Unhygienic.run `(Lean.Parser.Tactic.tacticSeq| intro _ _; rfl)).raw
def aDec : Lean.Syntax := (Lean.Unhygienic.run `(Lean.Parser.Tactic.tacticSeq| decide)).raw
def aOm : Lean.Syntax := (Lean.Unhygienic.run `(Lean.Parser.Tactic.tacticSeq| omega)).raw

/- values without their tokens; objects; what is known of a heap -/
inductive AV where
  | undef
  | none
  | bool (b : Bool)
  | int (i : Int)
  | flt (x : UInt64)
  | str (s : Str)
  | ref (a : Addr)
  | ty (n : String)
  | bi (id : String)

inductive Is : AV → Value → Prop where
  | none : Is .none .none
  | bool (b) : Is (.bool b) (.bool b)
  | int (i t) : Is (.int i) (.int i t)
  | flt (x t) : Is (.flt x) (.float x t)
  | str (s t) : Is (.str s) (.str s t)
  | ref (a) : Is (.ref a) (.ref a)
  | ty (n) : Is (.ty n) (.type n)
  | bi (id) : Is (.bi id) (.builtin id)

noncomputable def IsI : AV → Value → Prop
  | .none, V => ∃ _ : Unit, V = .none
  | .bool b, V => ∃ _ : Unit, V = .bool b
  | .int i, V => ∃ t, V = .int i t
  | .flt x, V => ∃ t, V = .float x t
  | .str s, V => ∃ t, V = .str s t
  | .ref a, V => ∃ _ : Unit, V = .ref a
  | .ty n, V => ∃ _ : Unit, V = .type n
  | .bi b, V => ∃ _ : Unit, V = .builtin b
  | .undef, _ => False
theorem Is.inv {a : AV} {V : Value} (h : Is a V) : IsI a V := by cases h <;> first | exact ⟨(), rfl⟩ | exact ⟨_, rfl⟩
noncomputable def All2 : List AV → List Value → Prop
  | [], [] => True
  | a :: as, v :: vs => Is a v ∧ All2 as vs
  | _, _ => False

theorem All2.length : ∀ {as : List AV} {vs : List Value}, All2 as vs → vs.length = as.length
  | [], [], _ => rfl
  | _ :: _, _ :: _, h => by simp only [List.length_cons]; rw [All2.length h.2]
theorem All2.get : ∀ {as : List AV} {vs : List Value}, All2 as vs → ∀ {i : Nat} {a : AV}, as[i]? = some a → ∃ v, vs[i]? = some v ∧ Is a v
  | _ :: _, v :: _, h, 0, _, e => by cases e; exact ⟨v, rfl, h.1⟩
  | _ :: _, _ :: _, h, i + 1, _, e => by
    obtain ⟨v, hv, q⟩ := All2.get h.2 (i := i) (by simpa using e)
    exact ⟨v, by simpa using hv, q⟩
theorem All2.append : ∀ {as bs : List AV} {vs ws : List Value}, All2 as vs → All2 bs ws → All2 (as ++ bs) (vs ++ ws)
  | [], _, [], _, _, h => h
  | _ :: _, _, _ :: _, _, h, g => ⟨h.1, All2.append h.2 g⟩

noncomputable abbrev Loc := List (Str × AV)
inductive AO where
  | list (xs : List AV)
  | tup (xs : List AV)
  | ns (m : Loc)
  | cell (v : AV)
  | dict (es : List (Str × AV))
  | raw (o : Obj)
  | iter (T : String) (vs : List Value)
  | rng (a b c : Int)

noncomputable abbrev HS := List (Addr × AO)

/- a name's value in a list of names -/
inductive At {α : Type} : List (Str × α) → Str → α → Prop where
  | head {x v r} : At ((x, v) :: r) x v
  | tail {x v p r} : At r x v → At (p :: r) x v
inductive Put : Loc → Str → AV → Loc → Prop where
  | head {x u v r} : Put ((x, u) :: r) x v ((x, v) :: r)
  | tail {x v p r r'} : Put r x v r' → Put (p :: r) x v (p :: r')
theorem At.mem {α : Type} {m : List (Str × α)} {x : Str} {v : α} (h : At m x v) : (x, v) ∈ m := by
  induction h with
  | head => exact .head _
  | tail _ ih => exact .tail _ ih
theorem Put.keys {m m' : Loc} {x : Str} {v : AV} (h : Put m x v m') : m'.map (·.1) = m.map (·.1) := by
  induction h with
  | head => rfl
  | tail _ ih => simp only [List.map_cons, ih]
theorem Put.keyIn {m m' : Loc} {x : Str} {v : AV} (h : Put m x v m') : x ∈ m.map (·.1) := by
  induction h with
  | head => exact .head _
  | tail _ ih => exact .tail _ ih
theorem Put.mem {m m' : Loc} {x : Str} {v : AV} (h : Put m x v m') (nd : (m.map (·.1)).Nodup) : ∀ p ∈ m', p = (x, v) ∨ (p ∈ m ∧ p.1 ≠ x) := by
  induction h with
  | @head x u v r =>
    intro p hp
    rcases List.mem_cons.mp hp with rfl | hp
    · exact .inl rfl
    · refine .inr ⟨.tail _ hp, fun e => ?_⟩
      rw [List.map_cons, List.nodup_cons] at nd
      have h := List.mem_map_of_mem (f := fun p : Str × AV => p.1) hp
      rw [e] at h; exact nd.1 h
  | @tail x v q r r' hq ih =>
    intro p hp
    rw [List.map_cons, List.nodup_cons] at nd
    rcases List.mem_cons.mp hp with rfl | hp
    · refine .inr ⟨.head _, fun e => ?_⟩
      exact nd.1 (e ▸ hq.keyIn)
    · rcases ih nd.2 p hp with h | h
      · exact .inl h
      · exact .inr ⟨.tail _ h.1, h.2⟩
theorem At.lookup {α : Type} {m : List (Str × α)} {x : Str} {v : α} (h : At m x v) (nd : (m.map (·.1)).Nodup) : m.lookup x = some v := by
  induction h with
  | head => simp
  | @tail x v p r hq ih =>
    rw [List.map_cons, List.nodup_cons] at nd
    have : (x == p.1) = false := by
      refine beq_eq_false_iff_ne.mpr fun e => nd.1 ?_
      exact e ▸ List.mem_map_of_mem hq.mem
    rw [List.lookup_cons, this]; exact ih nd.2

noncomputable def Known (m : Loc) (f : Str → Option Value) : Prop := (m.map (·.1)).Nodup ∧ ∀ p ∈ m, p.2 ≠ .undef → ∃ V, f p.1 = some V ∧ Is p.2 V
theorem Known.put {m m' : Loc} {f : Str → Option Value} {x : Str} {v : AV} {V : Value} (K : Known m f) (hp : Put m x v m') (hv : v ≠ .undef → Is v V) : Known m' (fun y => if y = x then some V else f y) := by
  refine ⟨hp.keys ▸ K.1, fun p hm hu => ?_⟩
  rcases hp.mem K.1 p hm with rfl | ⟨h1, h2⟩
  · exact ⟨V, by simp, hv hu⟩
  · obtain ⟨V', e, i⟩ := K.2 p h1 hu
    exact ⟨V', by simp [h2, e], i⟩

structure Cx where
  prog : Program
  w : World
  h₀ : Heap
  mg : Str → Option Value
  mb : Str → Option Value
  gl : Loc
noncomputable abbrev Cx.M (C : Cx) : Model := model C.prog C.w
structure Cx.Ok (C : Cx) : Prop where
  g : C.h₀.Ns mainGlobals C.mg
  b : C.h₀.Ns builtinsNs C.mb
  nolimit : C.h₀.NoLimit
  mods : ∃ o, C.h₀.get? sysModules = some o
  gls : ∀ p ∈ C.gl, p.1 ≠ "__debug__" ∧ ∃ V, Is p.2 V ∧ (C.mg p.1 = some V ∨ (C.mg p.1 = none ∧ C.mb p.1 = some V))

/- a dict with str keys -/
noncomputable def DP : List (Str × AV) → List (Str × Value) → Prop
  | [], [] => True
  | (k, a) :: es, (k', v) :: kvs => k = k' ∧ Is a v ∧ DP es kvs
  | _, _ => False
noncomputable def OIs (C : Cx) : AO → Obj → Prop
  | .list xs, o => ∃ vs n, o = { cls := .type "list", data := .seq vs n } ∧ All2 xs vs.toList
  | .tup xs, o => ∃ vs n, o = { cls := .type "tuple", data := .seq vs n } ∧ All2 xs vs.toList
  | .ns m, o => ∃ f es ep, o.data = .dict es ep ∧ StrKeys es ∧ (∀ x, nsFind es x = f x) ∧ Known m f
  | .cell v, o => ∃ V, o.data = .cell V ∧ (v ≠ .undef → ∃ V', V = some V' ∧ Is v V')
  | .dict es, o => ∃ kvs, o.IsDictOf (strKind C.prog C.w) kvs ∧ DP es kvs
  | .raw o', o => o = o'
  | .iter T vs, o => o.cls = .type T ∧ o.data = .fields vs.toArray
  | .rng a b c, o => ∃ t u v, o = { cls := .type "range", data := .fields #[.int a t, .int b u, .int c v] }

structure Sat (C : Cx) (H : HS) (h : Heap) : Prop where
  keep : ∀ b o, C.h₀.get? b = some o → h.get? b = some o
  nd : (H.map (·.1)).Nodup
  at_ : ∀ p ∈ H, C.h₀.get? p.1 = none ∧ ∃ o, h.get? p.1 = some o ∧ OIs C p.2 o

noncomputable def Tr {α : Type} (C : Cx) (A : Around) (t : Sem α) (H : HS) (Q : α → HS → Prop) : Prop :=
  ∀ (F : HS) (s : Shared) (Qc : α → Shared → Prop) (E : Value → Shared → Prop), Sat C (H ++ F) s.heap →
    (∀ a H' h' tk', Q a H' → Sat C (H' ++ F) h' → Qc a { s with heap := h', toks := tk' }) → wpAny C.M A t Qc E s

section
variable {α β : Type} {C : Cx} {A : Around} {H : HS}

theorem Tr.bind {t : Sem α} {f : α → Sem β} {Q : β → HS → Prop} (h : Tr C A t H fun a H' => Tr C A (f a) H' Q) : Tr C A (t >>= f) H Q :=
  fun F s _ E S k => wpAny_bind (h F s _ E S fun a _ h' tk' q S' => q F { s with heap := h', toks := tk' } _ E S' fun b _ h'' tk'' q' S'' => k b _ h'' tk'' q' S'')
theorem Tr.pure {a : α} {Q : α → HS → Prop} (h : Q a H) : Tr C A (pure a) H Q := fun F s _ _ S k => wpAny_pure (k a H s.heap s.toks h S)
theorem Tr.mono {t : Sem α} {Q Q' : α → HS → Prop} (h : Tr C A t H Q) (hq : ∀ a H', Q a H' → Q' a H') : Tr C A t H Q' :=
  fun F s Qc E S k => h F s Qc E S fun a H' h' tk' q S' => k a H' h' tk' (hq a H' q) S'
theorem Tr.frame {t : Sem α} {Q : α → HS → Prop} (h : Tr C A t H Q) (G : HS) : Tr C A t (H ++ G) fun a H' => ∃ H'', H' = H'' ++ G ∧ Q a H'' :=
  fun F s Qc E S k => h (G ++ F) s Qc E (by rw [← List.append_assoc]; exact S) fun a H' h' tk' q S' => k a (H' ++ G) h' tk' ⟨H', rfl, q⟩ (by rw [List.append_assoc]; exact S')

noncomputable def Sub (H' H : HS) : Prop := ∀ F C h, Sat C (H ++ F) h → Sat C (H' ++ F) h
theorem Sub.refl : Sub H H := fun _ _ _ S => S
theorem Sub.trans {H' H'' : HS} (a : Sub H'' H') (b : Sub H' H) : Sub H'' H := fun F w h S => a F w h (b F w h S)
theorem Sat.of_sublist {H' : HS} {h : Heap} (S : Sat C H h) (e : H'.Sublist H) : Sat C H' h := ⟨S.keep, S.nd.sublist (e.map _), fun p hp => S.at_ p (e.subset hp)⟩
theorem Sat.of_perm {H' : HS} {h : Heap} (S : Sat C H h) (e : H'.Perm H) : Sat C H' h := ⟨S.keep, (e.map _).nodup_iff.mpr S.nd, fun p hp => S.at_ p (e.subset hp)⟩
theorem Sub.of_sublist {H' : HS} (e : H'.Sublist H) : Sub H' H := fun F _ _ S => S.of_sublist (e.append_right F)
theorem Sub.of_perm {H' : HS} (e : H'.Perm H) : Sub H' H := fun F _ _ S => S.of_perm (e.append_right F)
theorem Tr.weak {t : Sem α} {Q : α → HS → Prop} (h : Tr C A t H fun a H' => ∃ H'', Sub H'' H' ∧ Q a H'') : Tr C A t H Q :=
  fun F s Qc E S k => h F s Qc E S fun a _ h' tk' q S' => let ⟨H'', e, q'⟩ := q; k a H'' h' tk' q' (e _ _ _ S')
theorem Tr.pre {t : Sem α} {Q : α → HS → Prop} {H' : HS} (e : Sub H' H) (h : Tr C A t H' Q) : Tr C A t H Q :=
  fun F s Qc E S k => h F s Qc E (e _ _ _ S) k

theorem Sat.lt {h : Heap} (S : Sat C H h) : ∀ p ∈ H, p.1 < h.objs.size := fun p hp => let ⟨_, _, e, _⟩ := S.at_ p hp; Heap.lt_size e
theorem Sat.push {h : Heap} {o : Obj} {ao : AO} (S : Sat C H h) (ho : OIs C ao o) (hf : autoParam (o.isFreed = false) aRfl) : Sat C ((h.objs.size, ao) :: H) (h.push o) where
  keep := fun b o' e => Heap.get?_push_of_some _ (S.keep b o' e)
  nd := by
    rw [List.map_cons, List.nodup_cons]
    refine ⟨fun q => ?_, S.nd⟩
    obtain ⟨p, hp, e⟩ := List.mem_map.mp q
    exact absurd (S.lt p hp) (by rw [e]; exact Nat.lt_irrefl _)
  at_ := fun p hp => by
    rcases List.mem_cons.mp hp with rfl | hp
    · refine ⟨?_, o, Heap.get?_push_size _ hf, ho⟩
      cases q : C.h₀.get? h.objs.size with
      | none => rfl
      | some o' => exact absurd (Heap.lt_size (S.keep _ _ q)) (Nat.lt_irrefl _)
    · obtain ⟨e1, o', e2, e3⟩ := S.at_ p hp
      exact ⟨e1, o', Heap.get?_push_of_some _ e2, e3⟩
/- objects of no interest may be made -/
theorem Sat.grow {h h' : Heap} (S : Sat C H h) (hk : ∀ b o, h.get? b = some o → h'.get? b = some o) : Sat C H h' :=
  ⟨fun b o e => hk b o (S.keep b o e), S.nd, fun p hp => let ⟨e1, o, e2, e3⟩ := S.at_ p hp; ⟨e1, o, hk _ _ e2, e3⟩⟩
theorem Sat.set {h h' : Heap} {pre post : HS} {a : Addr} {ao ao' : AO} {o' : Obj} (S : Sat C (pre ++ (a, ao) :: post) h) (hs : ∀ b o, b ≠ a → h.get? b = some o → h'.get? b = some o) (ho : h'.get? a = some o') (hi : OIs C ao' o') :
    Sat C (pre ++ (a, ao') :: post) h' where
  keep := fun b o e => hs b o (fun q => by
    have := (S.at_ (a, ao) (by simp)).1
    rw [← q, e] at this; cases this) (S.keep b o e)
  nd := by simpa using S.nd
  at_ := fun p hp => by
    have nd := S.nd
    simp only [List.map_append, List.map_cons, List.nodup_append, List.nodup_cons] at nd
    rcases List.mem_append.mp hp with q | q
    · obtain ⟨e1, o, e2, e3⟩ := S.at_ p (List.mem_append_left _ q)
      refine ⟨e1, o, hs _ _ (fun z => ?_) e2, e3⟩
      exact nd.2.2 p.1 (List.mem_map_of_mem q) a (by simp) z
    · rcases List.mem_cons.mp q with rfl | q
      · exact ⟨(S.at_ (a, ao) (by simp)).1, o', ho, hi⟩
      · obtain ⟨e1, o, e2, e3⟩ := S.at_ p (List.mem_append_right _ (.tail _ q))
        refine ⟨e1, o, hs _ _ (fun z => ?_) e2, e3⟩
        exact nd.2.1.1 (z ▸ List.mem_map_of_mem q)
theorem Sat.ns {h : Heap} {L : Addr} {m : Loc} (S : Sat C H h) (hm : (L, AO.ns m) ∈ H) : ∃ f, h.Ns L f ∧ Known m f := by
  obtain ⟨_, o, e, f, es, ep, h1, h2, h3, h4⟩ := S.at_ _ hm
  exact ⟨f, ⟨o, es, ep, e, h1, h2, h3⟩, h4⟩
theorem Sat.put {h h' : Heap} {L : Addr} {m m' : Loc} {f : Str → Option Value} (S : Sat C ((L, .ns m) :: H) h) (hs : Heap.SameBut L h h') (hn : h'.Ns L f) (K : Known m' f) : Sat C ((L, .ns m') :: H) h' := by
  obtain ⟨o, es, ep, e, h1, h2, h3⟩ := hn
  exact Sat.set (pre := []) S (fun b o q e => (hs.2 b q).trans e) e ⟨f, es, ep, h1, h2, h3, K⟩
end

/- values of trees in a frame whose names are `m` -/
noncomputable def TV (C : Cx) (A : Around) (t : Sem Value) (L : Addr) (m : Loc) (H : HS) (Q : AV → HS → Prop) : Prop :=
  Tr C A t ((L, .ns m) :: H) fun V H' => ∃ v H'', H' = (L, .ns m) :: H'' ∧ Is v V ∧ Q v H''
noncomputable def TB (C : Cx) (A : Around) (t : Sem Bool) (L : Addr) (m : Loc) (H : HS) (Q : Bool → HS → Prop) : Prop :=
  Tr C A t ((L, .ns m) :: H) fun b H' => ∃ H'', H' = (L, .ns m) :: H'' ∧ Q b H''
noncomputable def TU (C : Cx) (A : Around) (t : Sem Unit) (L : Addr) (m : Loc) (H : HS) (Q : Loc → HS → Prop) : Prop :=
  Tr C A t ((L, .ns m) :: H) fun _ H' => ∃ m' H'', H' = (L, .ns m') :: H'' ∧ Q m' H''
noncomputable def TL (C : Cx) (A : Around) (t : Sem (List Value)) (L : Addr) (m : Loc) (H : HS) (Q : List AV → HS → Prop) : Prop :=
  Tr C A t ((L, .ns m) :: H) fun V H' => ∃ v H'', H' = (L, .ns m) :: H'' ∧ All2 v V ∧ Q v H''
inductive FL where
  | next | brk | cont
  | ret (v : AV)
noncomputable def FIs : FL → Flow → Prop
  | .next, .next => True
  | .brk, .brk => True
  | .cont, .cont => True
  | .ret v, .ret V => Is v V
  | _, _ => False
noncomputable def TF (C : Cx) (A : Around) (t : Sem Flow) (L : Addr) (m : Loc) (H : HS) (Q : FL → Loc → HS → Prop) : Prop :=
  Tr C A t ((L, .ns m) :: H) fun fl H' => ∃ f m' H'', H' = (L, .ns m') :: H'' ∧ FIs f fl ∧ Q f m' H''

theorem TV.go {C : Cx} {A : Around} {t : Sem Value} {L : Addr} {m : Loc} {H : HS} {Q : AV → HS → Prop} (h : TV C A t L m H Q) {F : HS} {s : Shared} {Qc E : Value → Shared → Prop} (S : Sat C (((L, .ns m) :: H) ++ F) s.heap)
    (k : ∀ V v H' h' tk', Is v V → Q v H' → Sat C (((L, .ns m) :: H') ++ F) h' → Qc V { s with heap := h', toks := tk' }) : wpAny C.M A t Qc E s :=
  h F s Qc E S fun V _ h' tk' ⟨v, H', e, i, q⟩ S' => by subst e; exact k V v H' h' tk' i q S'
theorem TL.go {C : Cx} {A : Around} {t : Sem (List Value)} {L : Addr} {m : Loc} {H : HS} {Q : List AV → HS → Prop} (h : TL C A t L m H Q) {F : HS} {s : Shared} {Qc : List Value → Shared → Prop} {E : Value → Shared → Prop} (S : Sat C (((L, .ns m) :: H) ++ F) s.heap)
    (k : ∀ V v H' h' tk', All2 v V → Q v H' → Sat C (((L, .ns m) :: H') ++ F) h' → Qc V { s with heap := h', toks := tk' }) : wpAny C.M A t Qc E s :=
  h F s Qc E S fun V _ h' tk' ⟨v, H', e, i, q⟩ S' => by subst e; exact k V v H' h' tk' i q S'
theorem TB.go {C : Cx} {A : Around} {t : Sem Bool} {L : Addr} {m : Loc} {H : HS} {Q : Bool → HS → Prop} (h : TB C A t L m H Q) {F : HS} {s : Shared} {Qc : Bool → Shared → Prop} {E : Value → Shared → Prop} (S : Sat C (((L, .ns m) :: H) ++ F) s.heap)
    (k : ∀ b H' h' tk', Q b H' → Sat C (((L, .ns m) :: H') ++ F) h' → Qc b { s with heap := h', toks := tk' }) : wpAny C.M A t Qc E s :=
  h F s Qc E S fun b _ h' tk' ⟨H', e, q⟩ S' => by subst e; exact k b H' h' tk' q S'
theorem TU.go {C : Cx} {A : Around} {t : Sem Unit} {L : Addr} {m : Loc} {H : HS} {Q : Loc → HS → Prop} (h : TU C A t L m H Q) {F : HS} {s : Shared} {Qc : Unit → Shared → Prop} {E : Value → Shared → Prop} (S : Sat C (((L, .ns m) :: H) ++ F) s.heap)
    (k : ∀ m' H' h' tk', Q m' H' → Sat C (((L, .ns m') :: H') ++ F) h' → Qc () { s with heap := h', toks := tk' }) : wpAny C.M A t Qc E s :=
  h F s Qc E S fun _ _ h' tk' ⟨m', H', e, q⟩ S' => by subst e; exact k m' H' h' tk' q S'
theorem TF.go {C : Cx} {A : Around} {t : Sem Flow} {L : Addr} {m : Loc} {H : HS} {Q : FL → Loc → HS → Prop} (h : TF C A t L m H Q) {F : HS} {s : Shared} {Qc : Flow → Shared → Prop} {E : Value → Shared → Prop} (S : Sat C (((L, .ns m) :: H) ++ F) s.heap)
    (k : ∀ fl f m' H' h' tk', FIs f fl → Q f m' H' → Sat C (((L, .ns m') :: H') ++ F) h' → Qc fl { s with heap := h', toks := tk' }) : wpAny C.M A t Qc E s :=
  h F s Qc E S fun fl _ h' tk' ⟨f, m', H', e, i, q⟩ S' => by subst e; exact k fl f m' H' h' tk' i q S'
noncomputable def EV (C : Cx) (A : Around) (e : Expr) (env : Env) (m : Loc) (H : HS) (Q : AV → HS → Prop) : Prop := TV C A (eval e env) env.locals m H Q
noncomputable def ET (C : Cx) (A : Around) (e : Expr) (env : Env) (m : Loc) (H : HS) (Q : Bool → HS → Prop) : Prop := TB C A (isTrue e env (eval e env)) env.locals m H Q
noncomputable def ES (C : Cx) (A : Around) (st : Stmt) (env : Env) (m : Loc) (H : HS) (Q : FL → Loc → HS → Prop) : Prop := TF C A (exec st env) env.locals m H Q
noncomputable def EB (C : Cx) (A : Around) (sts : List Stmt) (env : Env) (m : Loc) (H : HS) (Q : FL → Loc → HS → Prop) : Prop := TF C A (execs sts env) env.locals m H Q
/- the values of an argument list -/
noncomputable def EL (C : Cx) (A : Around) (pos : Pos) (es : List Expr) (env : Env) (m : Loc) (H : HS) (Q : List AV → HS → Prop) : Prop := TL C A (spliced (backTo pos (starEach es env))) env.locals m H Q
noncomputable def OP1 (C : Cx) (A : Around) (f : Value → Sem Value) (a : AV) (L : Addr) (m : Loc) (H : HS) (Q : AV → HS → Prop) : Prop := ∀ Va, Is a Va → TV C A (f Va) L m H Q
noncomputable def OP2 (C : Cx) (A : Around) (f : Value → Value → Sem Value) (a b : AV) (L : Addr) (m : Loc) (H : HS) (Q : AV → HS → Prop) : Prop := ∀ Va Vb, Is a Va → Is b Vb → TV C A (f Va Vb) L m H Q
noncomputable def OPL (C : Cx) (A : Around) (f : List Value → Sem Value) (as : List AV) (L : Addr) (m : Loc) (H : HS) (Q : AV → HS → Prop) : Prop := ∀ Vs, All2 as Vs → TV C A (f Vs) L m H Q
noncomputable def TRU (C : Cx) (A : Around) (a : AV) (L : Addr) (m : Loc) (H : HS) (Q : Bool → HS → Prop) : Prop := ∀ Va, Is a Va → TB C A (truthy Va) L m H Q

section
variable {C : Cx} {A : Around} {L : Addr} {m : Loc} {H : HS}
theorem TV.bindV {t : Sem Value} {f : Value → Sem Value} {Q : AV → HS → Prop} (h : TV C A t L m H fun a H' => ∀ V, Is a V → TV C A (f V) L m H' Q) : TV C A (t >>= f) L m H Q :=
  Tr.bind (Tr.mono h fun V H' ⟨v, H'', e, i, q⟩ => e ▸ q V i)
theorem TV.bindU {t : Sem Value} {f : Value → Sem Unit} {Q : Loc → HS → Prop} (h : TV C A t L m H fun a H' => ∀ V, Is a V → TU C A (f V) L m H' Q) : TU C A (t >>= f) L m H Q :=
  Tr.bind (Tr.mono h fun V H' ⟨v, H'', e, i, q⟩ => e ▸ q V i)
theorem TV.mono {t : Sem Value} {Q Q' : AV → HS → Prop} (h : TV C A t L m H Q) (k : ∀ v H', Q v H' → Q' v H') : TV C A t L m H Q' :=
  Tr.mono h fun _ _ ⟨v, H'', e, i, q⟩ => ⟨v, H'', e, i, k v H'' q⟩
theorem TF.mono {t : Sem Flow} {Q Q' : FL → Loc → HS → Prop} (h : TF C A t L m H Q) (k : ∀ f m' H', Q f m' H' → Q' f m' H') : TF C A t L m H Q' :=
  Tr.mono h fun _ _ ⟨f, m', H'', e, i, q⟩ => ⟨f, m', H'', e, i, k f m' H'' q⟩
theorem TV.pure {v : AV} {V : Value} {Q : AV → HS → Prop} (i : Is v V) (h : Q v H) : TV C A (Pure.pure V) L m H Q := Tr.pure ⟨v, H, rfl, i, h⟩
theorem Sub.under {H H' : HS} {p : Addr × AO} (e : H'.Sublist H) : Sub (p :: H') (p :: H) := Sub.of_sublist (e.cons_cons p)
theorem Sub.cons {H H' : HS} {p : Addr × AO} (e : Sub H' H) : Sub (p :: H') (p :: H) := fun F C h S => by
  have h1 : Sat C (H ++ (p :: F)) h := S.of_perm List.perm_middle
  exact (e _ _ _ h1).of_perm List.perm_middle.symm
/- forget what is no more needed -/
theorem TV.drop {t : Sem Value} {Q : AV → HS → Prop} {H' : HS} (e : H'.Sublist H) (h : TV C A t L m H' Q) : TV C A t L m H Q := Tr.pre (Sub.under e) h
theorem TF.drop {t : Sem Flow} {Q : FL → Loc → HS → Prop} {H' : HS} (e : H'.Sublist H) (h : TF C A t L m H' Q) : TF C A t L m H Q := Tr.pre (Sub.under e) h
end

/- what goes on behind a piece, named: a name is less to write down than a function -/
section
variable (C : Cx) (A : Around)
noncomputable abbrev kOp (o : Value → Value → Sem Value) (a : AV) (L : Addr) (m : Loc) (Q : AV → HS → Prop) : AV → HS → Prop := fun b H => OP2 C A o a b L m H Q
noncomputable abbrev kBin (r : Expr) (o : Value → Value → Sem Value) (env : Env) (m : Loc) (Q : AV → HS → Prop) : AV → HS → Prop := fun a H => EV C A r env m H (kOp C A o a env.locals m Q)
noncomputable abbrev kUna (o : Value → Sem Value) (L : Addr) (m : Loc) (Q : AV → HS → Prop) : AV → HS → Prop := fun a H => OP1 C A o a L m H Q
noncomputable abbrev kTru (L : Addr) (m : Loc) (Q : Bool → HS → Prop) : AV → HS → Prop := fun c H => TRU C A c L m H Q
noncomputable abbrev kApp (a : AV) (Q : List AV → HS → Prop) : List AV → HS → Prop := fun as H => Q (a :: as) H
noncomputable abbrev kCons (pos : Pos) (rest : List Expr) (env : Env) (m : Loc) (Q : List AV → HS → Prop) : AV → HS → Prop := fun a H => EL C A pos rest env m H (kApp a Q)
noncomputable abbrev kOpl (f : List Value → Sem Value) (L : Addr) (m : Loc) (Q : AV → HS → Prop) : List AV → HS → Prop := fun as H => OPL C A f as L m H Q
noncomputable abbrev kCallB (pos : Pos) (es : List Expr) (env : Env) (m : Loc) (Q : AV → HS → Prop) : AV → HS → Prop := fun fv H => ∃ id, fv = .bi id ∧ EL C A pos es env m H (kOpl C A (fun Vs => call (.builtin id) Vs) env.locals m Q)
noncomputable abbrev kCallT (pos : Pos) (es : List Expr) (env : Env) (m : Loc) (Q : AV → HS → Prop) : AV → HS → Prop := fun fv H => ∃ id, fv = .ty id ∧ EL C A pos es env m H (kOpl C A (fun Vs => call (.type id) Vs) env.locals m Q)
noncomputable abbrev kCallK (a : Addr) (pos : Pos) (es : List Expr) (env : Env) (m : Loc) (Q : AV → HS → Prop) : AV → HS → Prop := fun fv H => fv = .ref a ∧ EL C A pos es env m H (kOpl C A (fun Vs => call (.ref a) Vs) env.locals m Q)
end

structure EnvOk (env : Env) (names : List (Str × NameKind)) (cells : List (Str × Addr)) : Prop where
  kind : env.scope.kind = .function
  names_ : env.scope.names = names
  nd : (names.map (·.1)).Nodup
  nodebug : ∀ p ∈ names, p.2 ≠ .globalImplicit → p.1 ≠ "__debug__"
  globals : env.globals = mainGlobals
  builtins : env.builtins = builtinsNs
  cells_ : ∀ x c, At cells x c → env.cells.lookup x = some c

section
variable {C : Cx} {A : Around} {env : Env} {names : List (Str × NameKind)} {cells : List (Str × Addr)} {m : Loc} {H : HS}

theorem EnvOk.kindOf (E : EnvOk env names cells) {x : Str} {k : NameKind} (h : At names x k) : env.kindOf x = some k := by
  unfold Env.kindOf; rw [E.names_]; exact h.lookup E.nd
theorem EnvOk.debug (E : EnvOk env names cells) {x : Str} {k : NameKind} (h : At names x k) (hk : autoParam (k ≠ .globalImplicit) aDec) : (x == ("__debug__" : Str)) = false := beq_eq_false_iff_ne.mpr (E.nodebug _ h.mem hk)
theorem EnvOk.stores (E : EnvOk env names cells) : (env.scope.kind == .class || (env.scope.kind == .module && env.locals != env.globals)) = false := by rw [E.kind]; rfl
theorem EnvOk.block (E : EnvOk env names cells) : env.blockKind = .function := by unfold Env.blockKind; rw [E.kind]; rfl
theorem EnvOk.interactive (E : EnvOk env names cells) : interactive env = false := by unfold PySem.interactive; rw [E.kind]; rfl

/- names -/
theorem EV.loc {x : Str} {pos : Pos} {v : AV} {Q : AV → HS → Prop} (E : EnvOk env names cells) (hn : At names x .local) (hm : At m x v) (h : Q v H) (hu : autoParam (v ≠ .undef) aNo) : EV C A (.Name x pos) env m H Q := by
  intro F s Qc E' S k
  obtain ⟨f, hf, K⟩ := S.ns (.head _)
  obtain ⟨V, e, i⟩ := K.2 _ hm.mem hu
  exact wpAny_Name (wpAny_loadName_local E.kind (E.kindOf hn) hf e (k _ _ _ _ ⟨v, H, rfl, i, h⟩ S)) (E.debug hn)
theorem EV.cell {x : Str} {pos : Pos} {c : Addr} {v : AV} {Q : AV → HS → Prop} (E : EnvOk env names cells) (hn : At names x .cell) (hc : At cells x c) (hm : (c, AO.cell v) ∈ H) (h : Q v H) (hu : autoParam (v ≠ .undef) aNo) : EV C A (.Name x pos) env m H Q := by
  intro F s Qc E' S k
  obtain ⟨_, o, e, V, e2, r⟩ := S.at_ _ (.tail _ (List.mem_append_left F hm))
  obtain ⟨V', rfl, i⟩ := r hu
  exact wpAny_Name (wpAny_loadName_cell E.kind (E.kindOf hn) (E.cells_ _ _ hc) ⟨o, e, e2⟩ (k _ _ _ _ ⟨v, H, rfl, i, h⟩ S)) (E.debug hn)
theorem EV.free {x : Str} {pos : Pos} {c : Addr} {v : AV} {Q : AV → HS → Prop} (E : EnvOk env names cells) (hn : At names x .free) (hc : At cells x c) (hm : (c, AO.cell v) ∈ H) (h : Q v H) (hu : autoParam (v ≠ .undef) aNo) (hd : autoParam ((x == ("__classdict__" : Str)) = false) aDec) : EV C A (.Name x pos) env m H Q := by
  intro F s Qc E' S k
  obtain ⟨_, o, e, V, e2, r⟩ := S.at_ _ (.tail _ (List.mem_append_left F hm))
  obtain ⟨V', rfl, i⟩ := r hu
  exact wpAny_Name (wpAny_loadName_free E.kind (E.kindOf hn) (E.cells_ _ _ hc) ⟨o, e, e2⟩ (k _ _ _ _ ⟨v, H, rfl, i, h⟩ S) hd) (E.debug hn)
theorem EV.glob {x : Str} {pos : Pos} {v : AV} {Q : AV → HS → Prop} (G : C.Ok) (E : EnvOk env names cells) (hn : At names x .globalImplicit) (hg : At C.gl x v) (h : Q v H) : EV C A (.Name x pos) env m H Q := by
  intro F s Qc E' S k
  obtain ⟨_, V, i, r⟩ := G.gls _ hg.mem
  refine Name_function_global E.kind (E.kindOf hn) ?_ (beq_eq_false_iff_ne.mpr (G.gls _ hg.mem).1)
  have hG : s.heap.Ns env.globals C.mg := E.globals ▸ G.g.keeps S.keep
  have hB : s.heap.Ns env.builtins C.mb := E.builtins ▸ G.b.keeps S.keep
  rcases r with r | ⟨r1, r2⟩
  · exact loadGlobal_global hG r (k _ _ _ _ ⟨v, H, rfl, i, h⟩ S)
  · exact loadGlobal_builtin hG r1 hB r2 (k _ _ _ _ ⟨v, H, rfl, i, h⟩ S)

noncomputable def defd : AV → Bool
  | .undef => false
  | _ => true
theorem EV.locD {x : Str} {pos : Pos} {v : AV} {Q : AV → HS → Prop} (E : EnvOk env names cells) (hn : At names x .local) (hm : At m x v) (h : Q v H) (hu : defd v = true) : EV C A (.Name x pos) env m H Q := EV.loc E hn hm h (by rintro rfl; cases hu)
/- constants -/
theorem EV.int {i : Int} {kd pos} {Q : AV → HS → Prop} (h : Q (.int i) H) : EV C A (.Constant (.int i) kd pos) env m H Q :=
  fun F s _ _ S k => wpAny_Constant_int (k _ _ _ _ ⟨.int i, H, rfl, .int _ _, h⟩ S)
theorem EV.str {x : Str} {kd pos} {Q : AV → HS → Prop} (h : Q (.str x) H) : EV C A (.Constant (.str x) kd pos) env m H Q :=
  fun F s _ _ S k => wpAny_Constant_str (k _ _ _ _ ⟨.str x, H, rfl, .str _ _, h⟩ S)
theorem EV.bool {b : Bool} {kd pos} {Q : AV → HS → Prop} (h : Q (.bool b) H) : EV C A (.Constant (.bool b) kd pos) env m H Q :=
  fun F s _ _ S k => wpAny_Constant_bool (k _ _ s.heap s.toks ⟨.bool b, H, rfl, .bool _, h⟩ S)
theorem EV.none {kd pos} {Q : AV → HS → Prop} (h : Q .none H) : EV C A (.Constant .none kd pos) env m H Q :=
  fun F s _ _ S k => wpAny_Constant_none (k _ _ s.heap s.toks ⟨.none, H, rfl, .none, h⟩ S)
theorem EV.flt {x : UInt64} {kd pos} {Q : AV → HS → Prop} (h : Q (.flt x) H) : EV C A (.Constant (.float x) kd pos) env m H Q :=
  fun F s _ _ S k => wpAny_Constant_float (k _ _ _ _ ⟨.flt x, H, rfl, .flt _ _, h⟩ S)

/- nodes -/
theorem EV.bin {l r : Expr} {op : Operator} {pos : Pos} {Q : AV → HS → Prop} (h : EV C A l env m H (kBin C A r (binaryOp op) env m Q)) : EV C A (.BinOp l op r pos) env m H Q :=
  fun F s _ E S k => wpAny_BinOp (TV.go h S fun Va a H₁ h₁ t₁ i q S₁ => by
    exact TV.go q S₁ fun Vb b H₂ h₂ t₂ j q' S₂ => by
      exact q' Va Vb i j F { s with heap := h₂, toks := t₂ } _ E S₂ k)
theorem EV.una {x : Expr} {op : UnaryOp} {pos : Pos} {Q : AV → HS → Prop} (h : EV C A x env m H (kUna C A (unaryOp op) env.locals m Q)) : EV C A (.UnaryOp op x pos) env m H Q :=
  fun F s _ E S k => wpAny_UnaryOp (TV.go h S fun Va a H₁ h₁ t₁ i q S₁ => by
    exact q Va i F { s with heap := h₁, toks := t₁ } _ E S₁ k)
theorem EV.cmp {l r : Expr} {op : CmpOp} {pos : Pos} {Q : AV → HS → Prop} (h : EV C A l env m H (kBin C A r (compareOp op) env m Q)) (hm : autoParam (behindInMarks op r = false) aU) : EV C A (.Compare l [op] [r] pos) env m H Q :=
  fun F s _ E S k => wpAny_Compare1 (TV.go h S fun Va a H₁ h₁ t₁ i q S₁ => by
    exact TV.go q S₁ fun Vb b H₂ h₂ t₂ j q' S₂ => by
      exact q' Va Vb i j F { s with heap := h₂, toks := t₂ } _ E S₂ k) hm
theorem EV.ifx {test body orelse : Expr} {pos : Pos} {Q : AV → HS → Prop} (h : ET C A test env m H fun b H₁ => if b = true then EV C A body env m H₁ Q else EV C A orelse env m H₁ Q) : EV C A (.IfExp test body orelse pos) env m H Q :=
  fun F s _ E S k => wpAny_IfExp (TB.go h S fun b H₁ h₁ t₁ q S₁ => by
    cases b
    · exact q F { s with heap := h₁, toks := t₁ } _ E S₁ k
    · exact q F { s with heap := h₁, toks := t₁ } _ E S₁ k)
theorem EV.and {e₁ e₂ : Expr} {rest : List Expr} {pos : Pos} {Q : AV → HS → Prop} (h : EV C A e₁ env m H fun a H₁ => TRU C A a env.locals m H₁ fun b H₂ => if b = true then EV C A (.BoolOp .And (e₂ :: rest) pos) env m H₂ Q else Q a H₂) : EV C A (.BoolOp .And (e₁ :: e₂ :: rest) pos) env m H Q :=
  fun F s _ E S k => BoolOp_and (TV.go h S fun Va a H₁ h₁ t₁ i q S₁ => by
    exact TB.go (q Va i) S₁ fun b H₂ h₂ t₂ q' S₂ => by
      cases b
      · exact k _ _ _ _ ⟨a, H₂, rfl, i, q'⟩ S₂
      · exact q' F { s with heap := h₂, toks := t₂ } _ E S₂ k)
theorem EV.or {e₁ e₂ : Expr} {rest : List Expr} {pos : Pos} {Q : AV → HS → Prop} (h : EV C A e₁ env m H fun a H₁ => TRU C A a env.locals m H₁ fun b H₂ => if b = true then Q a H₂ else EV C A (.BoolOp .Or (e₂ :: rest) pos) env m H₂ Q) : EV C A (.BoolOp .Or (e₁ :: e₂ :: rest) pos) env m H Q :=
  fun F s _ E S k => BoolOp_or (TV.go h S fun Va a H₁ h₁ t₁ i q S₁ => by
    exact TB.go (q Va i) S₁ fun b H₂ h₂ t₂ q' S₂ => by
      cases b
      · exact q' F { s with heap := h₂, toks := t₂ } _ E S₂ k
      · exact k _ _ _ _ ⟨a, H₂, rfl, i, q'⟩ S₂)
theorem EV.one {op : BoolOp} {e : Expr} {pos : Pos} {Q : AV → HS → Prop} (h : EV C A e env m H Q) : EV C A (.BoolOp op [e] pos) env m H Q :=
  fun F s _ E S k => BoolOp_one (h F s _ E S k)

/- tests -/
theorem ET.cmp {l r : Expr} {op : CmpOp} {pos : Pos} {Q : Bool → HS → Prop} (h : EV C A l env m H (kBin C A r (compareOp op) env m (kTru C A env.locals m Q))) (hm : autoParam (behindInMarks op r = false) aU) : ET C A (.Compare l [op] [r] pos) env m H Q :=
  fun F s _ E S k => wpAny_isTrue_Compare1 (TV.go h S fun Va a H₁ h₁ t₁ i q S₁ => by
    exact TV.go q S₁ fun Vb b H₂ h₂ t₂ j q' S₂ => by
      exact TV.go (q' Va Vb i j) S₂ fun Vc c H₃ h₃ t₃ j q'' S₃ => by
        exact q'' Vc j F { s with heap := h₃, toks := t₃ } _ E S₃ k) hm
theorem ET.not {x : Expr} {pos : Pos} {Q : Bool → HS → Prop} (h : ET C A x env m H fun b H' => Q (!b) H') : ET C A (.UnaryOp .Not x pos) env m H Q :=
  fun F s _ E S k => isTrue_not (h F s _ E S fun b H' h' t' ⟨H'', e, q⟩ S' => k _ _ _ _ ⟨H'', e, q⟩ S')
theorem ET.plain {e : Expr} {Q : Bool → HS → Prop} (h : EV C A e env m H (kTru C A env.locals m Q)) (he : autoParam (∀ whole, isTrue e env whole = (do let v ← whole; standAt e.pos; holding [v] (truthy v))) aI) : ET C A e env m H Q :=
  fun F s _ E S k => isTrue_plain (TV.go h S fun Va a H₁ h₁ t₁ i q S₁ => by
    exact q Va i F { s with heap := h₁, toks := t₁ } _ E S₁ k) (he _)
theorem ET.and {x : Expr} {y : Expr} {rest : List Expr} {pos : Pos} {Q : Bool → HS → Prop} (h : ET C A x env m H fun b H₁ => if b = true then ET C A (.BoolOp .And (y :: rest) pos) env m H₁ Q else Q false H₁) : ET C A (.BoolOp .And (x :: y :: rest) pos) env m H Q :=
  fun F s _ E S k => wpAny_isTrue_BoolOp (wpAny_allTrue_And_cons (TB.go h S fun b H₁ h₁ t₁ q S₁ => by
    cases b
    · exact k _ _ _ _ ⟨H₁, rfl, q⟩ S₁
    · exact q F { s with heap := h₁, toks := t₁ } _ E S₁ k))
theorem ET.and1 {x : Expr} {pos : Pos} {Q : Bool → HS → Prop} (h : ET C A x env m H Q) : ET C A (.BoolOp .And [x] pos) env m H Q :=
  fun F s _ E S k => wpAny_isTrue_BoolOp (wpAny_allTrue_And_cons (TB.go h S fun b H₁ h₁ t₁ q S₁ => by
    cases b
    · exact k _ _ _ _ ⟨H₁, rfl, q⟩ S₁
    · exact wpAny_allTrue_And_nil (k _ _ _ _ ⟨H₁, rfl, q⟩ S₁)))
theorem ET.or {x : Expr} {y : Expr} {rest : List Expr} {pos : Pos} {Q : Bool → HS → Prop} (h : ET C A x env m H fun b H₁ => if b = true then Q true H₁ else ET C A (.BoolOp .Or (y :: rest) pos) env m H₁ Q) : ET C A (.BoolOp .Or (x :: y :: rest) pos) env m H Q :=
  fun F s _ E S k => wpAny_isTrue_BoolOp (wpAny_allTrue_Or_cons (TB.go h S fun b H₁ h₁ t₁ q S₁ => by
    cases b
    · exact q F { s with heap := h₁, toks := t₁ } _ E S₁ k
    · exact k _ _ _ _ ⟨H₁, rfl, q⟩ S₁))
theorem ET.or1 {x : Expr} {pos : Pos} {Q : Bool → HS → Prop} (h : ET C A x env m H Q) : ET C A (.BoolOp .Or [x] pos) env m H Q :=
  fun F s _ E S k => wpAny_isTrue_BoolOp (wpAny_allTrue_Or_cons (TB.go h S fun b H₁ h₁ t₁ q S₁ => by
    cases b
    · exact wpAny_allTrue_Or_nil (k _ _ _ _ ⟨H₁, rfl, q⟩ S₁)
    · exact k _ _ _ _ ⟨H₁, rfl, q⟩ S₁))
theorem TRU.bool {b : Bool} {L : Addr} {Q : Bool → HS → Prop} (h : Q b H) : TRU C A (.bool b) L m H Q := fun V i F s _ _ S k => by
  obtain ⟨_, rfl⟩ := i.inv; exact wpAny_truthy_bool (k _ _ s.heap s.toks ⟨H, rfl, h⟩ S)

/- argument lists -/
theorem EL.nil {pos : Pos} {Q : List AV → HS → Prop} (h : Q [] H) : EL C A pos [] env m H Q := fun F s _ _ S k => wpAny_items_nil (k _ _ s.heap s.toks ⟨[], H, rfl, trivial, h⟩ S)
theorem EL.cons {pos : Pos} {e : Expr} {rest : List Expr} {Q : List AV → HS → Prop} (h : EV C A e env m H (kCons C A pos rest env m Q)) (he : autoParam (starEach (e :: rest) env = (false, eval e env) :: starEach rest env) aRfl) : EL C A pos (e :: rest) env m H Q :=
  fun F s _ E S k => wpAny_items_cons (TV.go h S fun Va a H₁ h₁ t₁ i q S₁ => by
    exact TL.go q S₁ fun Vs as H₂ h₂ t₂ j q' S₂ => by
      exact k _ _ _ _ ⟨a :: as, H₂, rfl, ⟨i, j⟩, q'⟩ S₂) he
end

section
variable {C : Cx} {A : Around} {env : Env} {names : List (Str × NameKind)} {cells : List (Str × Addr)} {m m' : Loc} {H : HS}

structure Rm (A : Around) (n : Nat) : Prop where
  handled : A.handled = none
  depth : A.depth + n ≤ 900
  units : A.units + 30 * n ≤ 9000
theorem Rm.deeper {n : Nat} (R : Rm A (n + 1)) (env : Env) : Rm (A.deeper env) n := ⟨R.handled, by show A.depth + 1 + n ≤ 900; have := R.depth; lia, by show A.units + 3 + 30 * n ≤ 9000; have := R.units; lia⟩
theorem Rm.less {n k : Nat} (R : Rm A n) (h : autoParam (k ≤ n) aOm) : Rm A k := ⟨R.handled, by have := R.depth; lia, by have := R.units; lia⟩
theorem Rm.room {n : Nat} (R : Rm A n) : A.depth < recursionLimit := by have := R.depth; show A.depth < 1000; lia
theorem Rm.units' {n : Nat} (R : Rm A n) : A.units < cLine := by have := R.units; show A.units < 9900; lia

/- stores -/
theorem store_loc {x : Str} {v : AV} {V : Value} {Q : Unit → HS → Prop} (E : EnvOk env names cells) (hn : At names x .local) (hp : Put m x v m') (i : Is v V) (h : Q () ((env.locals, .ns m') :: H)) : Tr C A (storeName env x V) ((env.locals, .ns m) :: H) Q := by
  intro F s Qc E' S k
  obtain ⟨f, hf, K⟩ := S.ns (.head _)
  exact wpAny_storeName_local (E.kindOf hn) hf (fun h' hn' hs => k _ _ _ _ h (S.put hs hn' (K.put hp fun _ => i))) E.stores
theorem store_cell {x : Str} {c : Addr} {v u : AV} {V : Value} {Q : Unit → HS → Prop} {pre post : HS} (E : EnvOk env names cells) (hn : At names x .cell) (hc : At cells x c) (i : Is v V) (h : Q () (pre ++ (c, .cell v) :: post)) : Tr C A (storeName env x V) (pre ++ (c, .cell u) :: post) Q := by
  intro F s Qc E' S k
  rw [List.append_assoc] at S
  obtain ⟨_, o, e, W, e2, r⟩ := S.at_ (c, .cell u) (by simp)
  refine wpAny_storeName_cell E.kind (E.kindOf hn) (E.cells_ _ _ hc) ⟨o, e, e2⟩ fun h' hv hs => ?_
  obtain ⟨o', ho', hd'⟩ := hv
  refine k _ _ _ _ h ?_
  rw [List.append_assoc]
  exact Sat.set S (fun b o q e => (hs.2 b q).trans e) ho' ⟨_, hd', fun _ => ⟨V, rfl, i⟩⟩

/- statements -/
theorem ES.ret {e : Expr} {pos : Pos} {Q : FL → Loc → HS → Prop} (h : EV C A e env m H fun v H' => Q (.ret v) m H') : ES C A (.Return (some e) pos) env m H Q :=
  fun F s _ E S k => wpAny_Return_some (TV.go h S fun V v H₁ h₁ t₁ i q S₁ => by exact k _ _ _ _ ⟨.ret v, m, H₁, rfl, i, q⟩ S₁)
theorem ES.ret0 {pos : Pos} {Q : FL → Loc → HS → Prop} (h : Q (.ret .none) m H) : ES C A (.Return none pos) env m H Q :=
  fun F s _ E S k => wpAny_Return_none (k _ _ s.heap s.toks ⟨.ret .none, m, H, rfl, .none, h⟩ S)
theorem ES.pass {pos : Pos} {Q : FL → Loc → HS → Prop} (h : Q .next m H) : ES C A (.Pass pos) env m H Q :=
  fun F s _ E S k => wpAny_Pass (k _ _ s.heap s.toks ⟨.next, m, H, rfl, trivial, h⟩ S)
theorem ES.expr {e : Expr} {pos : Pos} {Q : FL → Loc → HS → Prop} (E : EnvOk env names cells) (h : EV C A e env m H fun v H' => Q .next m H') (hs : autoParam (swapsWith e none pos.line env = pure false) aRfl) : ES C A (.Expr e pos) env m H Q :=
  fun F s _ E' S k => wpAny_Expr_any (TV.go h S fun V v H₁ h₁ t₁ i q S₁ => by exact k _ _ _ _ ⟨.next, m, H₁, rfl, trivial, q⟩ S₁) E.interactive hs
theorem ES.assign {x : Str} {p' pos : Pos} {e : Expr} {Q : FL → Loc → HS → Prop} (E : EnvOk env names cells) (hn : At names x .local) (h : EV C A e env m H fun v H' => ∃ m', Put m x v m' ∧ Q .next m' H')
    (hs : autoParam (swapsWith e (some (.Name x p')) pos.line env = pure false) aRfl) : ES C A (.Assign [.Name x p'] e pos) env m H Q :=
  fun F s _ E' S k => wpAny_Assign_Name (TV.go h S fun V v H₁ h₁ t₁ i qq S₁ => by
    obtain ⟨m', hp, q⟩ := qq; exact store_loc (Q := fun _ H' => H' = (env.locals, .ns m') :: H₁) E hn hp i rfl F { s with heap := h₁, toks := t₁ } _ E' S₁ fun _ H' h₂ t₂ e S₂ => by subst e; exact k _ _ _ _ ⟨.next, m', H₁, rfl, trivial, q⟩ S₂) hs
theorem ES.assignC {x : Str} {c : Addr} {p' pos : Pos} {e : Expr} {Q : FL → Loc → HS → Prop} (E : EnvOk env names cells) (hn : At names x .cell) (hc : At cells x c)
    (h : EV C A e env m H fun v H' => ∃ pre post u, H' = pre ++ (c, .cell u) :: post ∧ Q .next m (pre ++ (c, .cell v) :: post))
    (hs : autoParam (swapsWith e (some (.Name x p')) pos.line env = pure false) aRfl) : ES C A (.Assign [.Name x p'] e pos) env m H Q :=
  fun F s _ E' S k => wpAny_Assign_Name (TV.go h S fun V v H₁ h₁ t₁ i qq S₁ => by
    obtain ⟨pre, post, u, e2, q⟩ := qq; subst e2; exact store_cell (pre := (env.locals, .ns m) :: pre) (Q := fun _ H' => H' = (env.locals, .ns m) :: (pre ++ (c, .cell v) :: post)) E hn hc i rfl F { s with heap := h₁, toks := t₁ } _ E' S₁ fun _ H' h₂ t₂ e S₂ => by
      subst e; exact k _ _ _ _ ⟨.next, m, _, rfl, trivial, q⟩ S₂) hs
theorem ES.if {test : Expr} {body orelse : List Stmt} {pos : Pos} {Q : FL → Loc → HS → Prop} (h : ET C A test env m H fun b H₁ => if b = true then EB C A body env m H₁ Q else EB C A orelse env m H₁ Q) : ES C A (.If test body orelse pos) env m H Q :=
  fun F s _ E S k => wpAny_If (TB.go h S fun b H₁ h₁ t₁ q S₁ => by
    cases b
    · exact q F { s with heap := h₁, toks := t₁ } _ E S₁ k
    · exact q F { s with heap := h₁, toks := t₁ } _ E S₁ k)

noncomputable def seqQ (Q : FL → Loc → HS → Prop) (K : Loc → HS → Prop) : FL → Loc → HS → Prop
  | .next, m, H => K m H
  | .brk, m, H => Q .brk m H
  | .cont, m, H => Q .cont m H
  | .ret v, m, H => Q (.ret v) m H
noncomputable abbrev kRest (C : Cx) (A : Around) (rest : List Stmt) (env : Env) (Q : FL → Loc → HS → Prop) : Loc → HS → Prop := fun m' H' => EB C A rest env m' H' Q
noncomputable abbrev kNext (C : Cx) (A : Around) (rest : List Stmt) (env : Env) (m : Loc) (Q : FL → Loc → HS → Prop) : AV → HS → Prop := fun _ H' => EB C A rest env m H' Q
noncomputable abbrev kPut (C : Cx) (A : Around) (x : Str) (rest : List Stmt) (env : Env) (m : Loc) (Q : FL → Loc → HS → Prop) : AV → HS → Prop := fun v H' => ∃ m', Put m x v m' ∧ EB C A rest env m' H' Q
noncomputable abbrev kRet (m : Loc) (Q : FL → Loc → HS → Prop) : AV → HS → Prop := fun v H' => Q (.ret v) m H'
theorem EB.nil {Q : FL → Loc → HS → Prop} (h : Q .next m H) : EB C A [] env m H Q := fun F s _ E S k => wpAny_execs_nil (k _ _ s.heap s.toks ⟨.next, m, H, rfl, trivial, h⟩ S)
theorem EB.cons {st : Stmt} {rest : List Stmt} {Q : FL → Loc → HS → Prop} (h : ES C A st env m H (seqQ Q (kRest C A rest env Q))) : EB C A (st :: rest) env m H Q :=
  fun F s _ E S k => wpAny_execs_cons (h F s _ E S fun fl _ h₁ t₁ ⟨f, m', H₁, e, i, q⟩ S₁ => by
    subst e
    cases f <;> cases fl <;> first | cases i; done | skip
    · exact q F { s with heap := h₁, toks := t₁ } _ E S₁ k
    · exact k _ _ _ _ ⟨.brk, m', H₁, rfl, trivial, q⟩ S₁
    · exact k _ _ _ _ ⟨.cont, m', H₁, rfl, trivial, q⟩ S₁
    · exact k _ _ _ _ ⟨.ret _, m', H₁, rfl, i, q⟩ S₁)

/- calls -/
/- what a def's object says -/
structure Fn (C : Cx) (f : Addr) (fd : FuncData) (body : List Stmt) (names : List (Str × NameKind)) : Prop where
  ob : ∃ o, C.h₀.get? f = some o ∧ o.data = .func fd
  code : C.h₀.CodeRec fd.code fd.qualname
  body_ : fd.body = .stmts body
  names_ : fd.scope.names = names
  kind : fd.scope.kind = .function
  co : fd.scope.isCoroutine = false
  gen : fd.scope.isGenerator = false
  globals : fd.globals = mainGlobals
  builtins : fd.builtins = builtinsNs
  closure : fd.closure = []

/- what a call hands back: its frame is forgotten -/
noncomputable def RET (L : Addr) (m : Loc) (Q : AV → HS → Prop) : FL → Loc → HS → Prop
  | .ret v, _, H' => ∃ H'', Sub ((L, .ns m) :: H'') H' ∧ Q v H''
  | _, _, H' => ∃ H'', Sub ((L, .ns m) :: H'') H' ∧ Q .none H''

end

section
variable {C : Cx} {A : Around} {L : Addr} {m : Loc} {H : HS} {Q : AV → HS → Prop} {a b : Int}

theorem intBits_le_of {x : Int} (h1 : -(2 ^ 64) < x) (h2 : x < 2 ^ 64) : Builtin.Int.intBits x ≤ 64 := intBits_le_64 h1 h2

/- ints -/
theorem OP.add (h : Q (.int (a + b)) H) : OP2 C A (binaryOp .Add) (.int a) (.int b) L m H Q := by
  intro Va Vb ia ib F s Qc E S k; obtain ⟨_, rfl⟩ := ia.inv; obtain ⟨_, rfl⟩ := ib.inv
  exact PyProof.Rows.add_int (k _ _ _ _ ⟨_, H, rfl, .int _ _, h⟩ S)
theorem OP.sub (h : Q (.int (a - b)) H) : OP2 C A (binaryOp .Sub) (.int a) (.int b) L m H Q := by
  intro Va Vb ia ib F s Qc E S k; obtain ⟨_, rfl⟩ := ia.inv; obtain ⟨_, rfl⟩ := ib.inv
  exact PyProof.Rows.sub_int (k _ _ _ _ ⟨_, H, rfl, .int _ _, h⟩ S)
theorem OP.mul (h1 : -(2 ^ 64) < a ∧ a < 2 ^ 64) (h : Q (.int (a * b)) H) : OP2 C A (binaryOp .Mult) (.int a) (.int b) L m H Q := by
  intro Va Vb ia ib F s Qc E S k; obtain ⟨_, rfl⟩ := ia.inv; obtain ⟨_, rfl⟩ := ib.inv
  exact PyProof.Rows.mul_int (k _ _ _ _ ⟨_, H, rfl, .int _ _, h⟩ S) (IntMulOk.of_left (intBits_le_of h1.1 h1.2))
theorem OP.mulr (h1 : -(2 ^ 64) < b ∧ b < 2 ^ 64) (h : Q (.int (a * b)) H) : OP2 C A (binaryOp .Mult) (.int a) (.int b) L m H Q := by
  intro Va Vb ia ib F s Qc E S k; obtain ⟨_, rfl⟩ := ia.inv; obtain ⟨_, rfl⟩ := ib.inv
  exact PyProof.Rows.mul_int (k _ _ _ _ ⟨_, H, rfl, .int _ _, h⟩ S) (IntMulOk.of_right (intBits_le_of h1.1 h1.2))
theorem OP.fdiv (hb : b ≠ 0) (hs : b.natAbs < 1073741824) (h : Q (.int (a.fdiv b)) H) : OP2 C A (binaryOp .FloorDiv) (.int a) (.int b) L m H Q := by
  intro Va Vb ia ib F s Qc E S k; obtain ⟨_, rfl⟩ := ia.inv; obtain ⟨_, rfl⟩ := ib.inv
  exact PyProof.Rows.floordiv_int hb (k _ _ _ _ ⟨_, H, rfl, .int _ _, h⟩ S) (.inl (PyProof.noPylong_small hs))
theorem OP.fmod (hb : b ≠ 0) (h : Q (.int (a.fmod b)) H) : OP2 C A (binaryOp .Mod) (.int a) (.int b) L m H Q := by
  intro Va Vb ia ib F s Qc E S k; obtain ⟨_, rfl⟩ := ia.inv; obtain ⟨_, rfl⟩ := ib.inv
  exact PyProof.Rows.mod_int' hb (k _ _ _ _ ⟨_, H, rfl, .int _ _, h⟩ S)
theorem OP.and (h : Q (.int (Builtin.bitAnd a b)) H) : OP2 C A (binaryOp .BitAnd) (.int a) (.int b) L m H Q := by
  intro Va Vb ia ib F s Qc E S k; obtain ⟨_, rfl⟩ := ia.inv; obtain ⟨_, rfl⟩ := ib.inv
  exact PyProof.Rows.and_int (k _ _ _ _ ⟨_, H, rfl, .int _ _, h⟩ S)
theorem OP.or (h : Q (.int (Builtin.bitOr a b)) H) : OP2 C A (binaryOp .BitOr) (.int a) (.int b) L m H Q := by
  intro Va Vb ia ib F s Qc E S k; obtain ⟨_, rfl⟩ := ia.inv; obtain ⟨_, rfl⟩ := ib.inv
  exact PyProof.Rows.or_int (k _ _ _ _ ⟨_, H, rfl, .int _ _, h⟩ S)
theorem OP.xor (h : Q (.int (Builtin.bitXor a b)) H) : OP2 C A (binaryOp .BitXor) (.int a) (.int b) L m H Q := by
  intro Va Vb ia ib F s Qc E S k; obtain ⟨_, rfl⟩ := ia.inv; obtain ⟨_, rfl⟩ := ib.inv
  exact PyProof.Rows.xor_int (k _ _ _ _ ⟨_, H, rfl, .int _ _, h⟩ S)
theorem OP.shr (hb : 0 ≤ b) (h : Q (.int (a.fdiv (2 ^ b.toNat))) H) : OP2 C A (binaryOp .RShift) (.int a) (.int b) L m H Q := by
  intro Va Vb ia ib F s Qc E S k; obtain ⟨_, rfl⟩ := ia.inv; obtain ⟨_, rfl⟩ := ib.inv
  exact PyProof.Rows.rshift_int hb (k _ _ _ _ ⟨_, H, rfl, .int _ _, h⟩ S)
theorem OP.shl (hb : 0 ≤ b) (hb2 : b ≤ 1000000) (ha : a.natAbs < 2 ^ 64) (h : Q (.int (a * 2 ^ b.toNat)) H) : OP2 C A (binaryOp .LShift) (.int a) (.int b) L m H Q := by
  intro Va Vb ia ib F s Qc E S k; obtain ⟨_, rfl⟩ := ia.inv; obtain ⟨_, rfl⟩ := ib.inv
  exact PyProof.Rows.lshift_int_small hb hb2 ha (k _ _ _ _ ⟨_, H, rfl, .int _ _, h⟩ S)
theorem OP.iadd (h : Q (.int (a + b)) H) : OP2 C A (inplaceOp .Add) (.int a) (.int b) L m H Q := by
  intro Va Vb ia ib F s Qc E S k; obtain ⟨_, rfl⟩ := ia.inv; obtain ⟨_, rfl⟩ := ib.inv
  exact PyProof.Rows.iadd_int (k _ _ _ _ ⟨_, H, rfl, .int _ _, h⟩ S)
theorem OP.neg (h : Q (.int (-a)) H) : OP1 C A (unaryOp .USub) (.int a) L m H Q := by
  intro Va ia F s Qc E S k; obtain ⟨_, rfl⟩ := ia.inv
  exact PyProof.Rows.neg_int (k _ _ _ _ ⟨_, H, rfl, .int _ _, h⟩ S)
theorem OP.inv (h : Q (.int (Builtin.bitNot a)) H) : OP1 C A (unaryOp .Invert) (.int a) L m H Q := by
  intro Va ia F s Qc E S k; obtain ⟨_, rfl⟩ := ia.inv
  exact PyProof.Rows.invert_int (k _ _ _ _ ⟨_, H, rfl, .int _ _, h⟩ S)
theorem OP.eqi (h : Q (.bool (a == b)) H) : OP2 C A (compareOp .Eq) (.int a) (.int b) L m H Q := by
  intro Va Vb ia ib F s Qc E S k; obtain ⟨_, rfl⟩ := ia.inv; obtain ⟨_, rfl⟩ := ib.inv
  exact PyProof.Rows.eq_int (k _ _ s.heap s.toks ⟨_, H, rfl, .bool _, h⟩ S)
theorem OP.nei (h : Q (.bool (a != b)) H) : OP2 C A (compareOp .NotEq) (.int a) (.int b) L m H Q := by
  intro Va Vb ia ib F s Qc E S k; obtain ⟨_, rfl⟩ := ia.inv; obtain ⟨_, rfl⟩ := ib.inv
  exact PyProof.Rows.ne_int (k _ _ s.heap s.toks ⟨_, H, rfl, .bool _, h⟩ S)
theorem OP.lti (h : Q (.bool (decide (a < b))) H) : OP2 C A (compareOp .Lt) (.int a) (.int b) L m H Q := by
  intro Va Vb ia ib F s Qc E S k; obtain ⟨_, rfl⟩ := ia.inv; obtain ⟨_, rfl⟩ := ib.inv
  exact PyProof.Rows.lt_int (k _ _ s.heap s.toks ⟨_, H, rfl, .bool _, h⟩ S)
theorem OP.lei (h : Q (.bool (decide (a ≤ b))) H) : OP2 C A (compareOp .LtE) (.int a) (.int b) L m H Q := by
  intro Va Vb ia ib F s Qc E S k; obtain ⟨_, rfl⟩ := ia.inv; obtain ⟨_, rfl⟩ := ib.inv
  exact PyProof.Rows.le_int (k _ _ s.heap s.toks ⟨_, H, rfl, .bool _, h⟩ S)
theorem OP.eqb {x y : Bool} (h : Q (.bool (x == y)) H) : OP2 C A (compareOp .Eq) (.bool x) (.bool y) L m H Q := by
  intro Va Vb ia ib F s Qc E S k; obtain ⟨_, rfl⟩ := ia.inv; obtain ⟨_, rfl⟩ := ib.inv
  exact PyProof.Rows.eq_bool (k _ _ s.heap s.toks ⟨_, H, rfl, .bool _, h⟩ S)
theorem OP.neb {x y : Bool} (h : Q (.bool (x != y)) H) : OP2 C A (compareOp .NotEq) (.bool x) (.bool y) L m H Q := by
  intro Va Vb ia ib F s Qc E S k; obtain ⟨_, rfl⟩ := ia.inv; obtain ⟨_, rfl⟩ := ib.inv
  exact PyProof.Rows.ne_bool (k _ _ s.heap s.toks ⟨_, H, rfl, .bool _, h⟩ S)

/- strs -/
theorem OP.eqs {x y : Str} (h : Q (.bool (x == y)) H) : OP2 C A (compareOp .Eq) (.str x) (.str y) L m H Q := by
  intro Va Vb ia ib F s Qc E S k; obtain ⟨_, rfl⟩ := ia.inv; obtain ⟨_, rfl⟩ := ib.inv
  exact PyProof.Rows.eq_str (k _ _ s.heap s.toks ⟨_, H, rfl, .bool _, h⟩ S)
theorem OP.nes {x y : Str} (h : Q (.bool (x != y)) H) : OP2 C A (compareOp .NotEq) (.str x) (.str y) L m H Q := by
  intro Va Vb ia ib F s Qc E S k; obtain ⟨_, rfl⟩ := ia.inv; obtain ⟨_, rfl⟩ := ib.inv
  exact PyProof.Rows.ne_str (k _ _ s.heap s.toks ⟨_, H, rfl, .bool _, h⟩ S)
theorem OP.ins {x y : Str} (h : Q (.bool !(Builtin.Str.occurrences x y 0 x.length 1).isEmpty) H) : OP2 C A (compareOp .In) (.str y) (.str x) L m H Q := by
  intro Va Vb ia ib F s Qc E S k; obtain ⟨_, rfl⟩ := ia.inv; obtain ⟨_, rfl⟩ := ib.inv
  exact PyProof.Rows.in_str (k _ _ s.heap s.toks ⟨_, H, rfl, .bool _, h⟩ S)
theorem OP.adds {x y : Str} (hsz : x.length + y.length ≤ sizeLine) (h : Q (.str (x ++ y)) H) : OP2 C A (binaryOp .Add) (.str x) (.str y) L m H Q := by
  intro Va Vb ia ib F s Qc E S k; obtain ⟨_, rfl⟩ := ia.inv; obtain ⟨_, rfl⟩ := ib.inv
  exact PyProof.Rows.add_str (fun t' tk => k _ _ _ _ ⟨_, H, rfl, .str _ _, h⟩ S) hsz

/- subscripts -/
noncomputable def SUB (C : Cx) (A : Around) (value slice : Expr) (a b : AV) (L : Addr) (m : Loc) (H : HS) (Q : AV → HS → Prop) : Prop := OP2 C A (subscriptTail value slice) a b L m H Q
noncomputable abbrev kSub2 (C : Cx) (A : Around) (value slice : Expr) (a : AV) (L : Addr) (m : Loc) (Q : AV → HS → Prop) : AV → HS → Prop := fun b H => SUB C A value slice a b L m H Q
noncomputable abbrev kSub (C : Cx) (A : Around) (value slice : Expr) (env : Env) (m : Loc) (Q : AV → HS → Prop) : AV → HS → Prop := fun a H => EV C A slice env m H (kSub2 C A value slice a env.locals m Q)
theorem EV.sub {env : Env} {value slice : Expr} {pos : Pos} (h : EV C A value env m H (kSub C A value slice env m Q)) : EV C A (.Subscript value slice pos) env m H Q :=
  fun F s _ E S k => Subscript_ (TV.go h S fun Va a H₁ h₁ t₁ i q S₁ => by
    exact TV.go q S₁ fun Vb b H₂ h₂ t₂ j q' S₂ => by
      exact q' Va Vb i j F { s with heap := h₂, toks := t₂ } _ E S₂ k)

theorem Sat.list {h : Heap} {xs : List AV} {l : Addr} (S : Sat C H h) (hm : (l, AO.list xs) ∈ H) : ∃ vs n, h.get? l = some { cls := .type "list", data := .seq vs n } ∧ All2 xs vs.toList := by
  obtain ⟨_, o, e, vs, n, rfl, r⟩ := S.at_ _ hm; exact ⟨vs, n, e, r⟩
theorem Sat.tup {h : Heap} {xs : List AV} {l : Addr} (S : Sat C H h) (hm : (l, AO.tup xs) ∈ H) : ∃ vs n, h.get? l = some { cls := .type "tuple", data := .seq vs n } ∧ All2 xs vs.toList := by
  obtain ⟨_, o, e, vs, n, rfl, r⟩ := S.at_ _ hm; exact ⟨vs, n, e, r⟩
theorem Sat.dict {h : Heap} {es : List (Str × AV)} {l : Addr} (S : Sat C H h) (hm : (l, AO.dict es) ∈ H) : ∃ kvs, h.DictOf (strKind C.prog C.w) l kvs ∧ DP es kvs := by
  obtain ⟨_, o, e, kvs, r, p⟩ := S.at_ _ hm; exact ⟨kvs, Heap.dictOf_iff.mpr ⟨o, e, r⟩, p⟩
theorem isList_of {h : Heap} {l : Addr} {vs : Array Value} {n : Nat} (e : h.get? l = some { cls := .type "list", data := .seq vs n }) : h.IsList l vs := ⟨_, e, rfl, n, rfl⟩
theorem isTuple_of {h : Heap} {l : Addr} {vs : Array Value} {n : Nat} (e : h.get? l = some { cls := .type "tuple", data := .seq vs n }) : h.IsTuple l vs := ⟨_, e, rfl, n, rfl⟩

/- the item of a list at an index, counted from its end where it is negative -/
noncomputable def idx (i : Int) (n : Nat) : Option Nat := seqIndex? i n

set_option tactic.hygienic true in
theorem SUB.list {value slice : Expr} {l : Addr} {xs : List AV} {i : Int} {j : Nat} {x : AV} (hm : (l, AO.list xs) ∈ H) (hj : seqIndex? i xs.length = some j) (hx : xs[j]? = some x) (h : Q x H)
    (hb : -(2 ^ 63) ≤ i ∧ i < 2 ^ 63 := by constructor <;> omega)
    (hs : autoParam (∀ u, subscripted slice false (.ref l) (.int i u) = operate [.ref l, .int i u] (getItem (.ref l) (.int i u))) aIU) : SUB C A value slice (.ref l) (.int i) L m H Q := by
  intro Va Vb ia ib F s Qc E S k; obtain ⟨_, rfl⟩ := ia.inv; obtain ⟨_, rfl⟩ := ib.inv
  rename_i u
  obtain ⟨vs, n, e, r⟩ := S.list (List.mem_append_left F (.tail _ hm))
  have hlen : vs.size = xs.length := by rw [← r.length]; simp
  obtain ⟨v, hv, iv⟩ := r.get hx
  have hv' : vs[j]? = some v := by simpa using hv
  have fin := k v _ s.heap s.toks ⟨x, H, rfl, iv, h⟩ S
  refine tail_any (isList_of e).typeIs slot_list_getitem.lookup ?_ (hs u)
  unfold seqIndex? at hj
  by_cases hneg : i < 0
  · simp only [hneg, if_true] at hj
    split at hj
    · rename_i q
      simp only [Bool.and_eq_true, decide_eq_true_eq] at q
      refine wpAny_getItem_list_neg (isList_of e) hneg (by lia) hb.1 ?_ fin
      rw [hlen]; cases hj; exact hv'
    · cases hj
  · simp only [hneg, if_false] at hj
    split at hj
    · rename_i q
      refine wpAny_getItem_list (isList_of e) (by lia) hb.2 ?_ fin
      cases hj; exact hv'
    · cases hj
set_option tactic.hygienic true in
theorem SUB.tup {value slice : Expr} {l : Addr} {xs : List AV} {i : Int} {j : Nat} {x : AV} (hm : (l, AO.tup xs) ∈ H) (hj : seqIndex? i xs.length = some j) (hx : xs[j]? = some x) (h : Q x H)
    (hb : -(2 ^ 63) ≤ i ∧ i < 2 ^ 63 := by constructor <;> omega)
    (hs : autoParam (∀ u, subscripted slice false (.ref l) (.int i u) = operate [.ref l, .int i u] (getItem (.ref l) (.int i u))) aIU) : SUB C A value slice (.ref l) (.int i) L m H Q := by
  intro Va Vb ia ib F s Qc E S k; obtain ⟨_, rfl⟩ := ia.inv; obtain ⟨_, rfl⟩ := ib.inv
  rename_i u
  obtain ⟨vs, n, e, r⟩ := S.tup (List.mem_append_left F (.tail _ hm))
  have hlen : vs.size = xs.length := by rw [← r.length]; simp
  obtain ⟨v, hv, iv⟩ := r.get hx
  have hv' : vs[j]? = some v := by simpa using hv
  have fin := k v _ s.heap s.toks ⟨x, H, rfl, iv, h⟩ S
  refine tail_any (isTuple_of e).typeIs slot_tuple_getitem.lookup ?_ (hs u)
  exact PyProof.Rows.getItem_tuple (isTuple_of e) hb.1 hb.2 (hlen ▸ hj) hv' fin
theorem SUB.str {value slice : Expr} {x : Str} {i : Int} {j c : Nat} (hj : seqIndex? i x.length = some j) (hx : x.cps[j]? = some c) (h : Q (.str ⟨#[c]⟩) H)
    (hb : -(2 ^ 63) ≤ i ∧ i < 2 ^ 63 := by constructor <;> omega)
    (hs : autoParam (∀ t u, subscripted slice false (.str x t) (.int i u) = operate [.str x t, .int i u] (getItem (.str x t) (.int i u))) aIIU) : SUB C A value slice (.str x) (.int i) L m H Q := by
  intro Va Vb ia ib F s Qc E S k; obtain ⟨_, rfl⟩ := ia.inv; obtain ⟨_, rfl⟩ := ib.inv
  refine tail_any (typeIs_str s x _) slot_str_getitem.lookup ?_ (hs _ _)
  refine getItem_str ?_ (c := c) (by rw [hj]; exact hx) (k _ _ s.heap _ ⟨_, H, rfl, .str _ _, h⟩ S)
  simp only [Bool.or_eq_false_iff, decide_eq_false_iff_not]; lia
end

section
variable {C : Cx} {A : Around} {env : Env} {L : Addr} {m : Loc} {H : HS} {Q : AV → HS → Prop}

/- new objects -/
theorem Sat.new {h : Heap} {o : Obj} {ao : AO} {p : Addr × AO} {F : HS} (S : Sat C ((p :: H) ++ F) h) (ho : OIs C ao o) (hf : autoParam (o.isFreed = false) aRfl) : Sat C ((p :: (h.objs.size, ao) :: H) ++ F) (h.push o) :=
  (S.push ho hf).of_perm (List.Perm.swap ..)
theorem All2.toArray {as : List AV} {vs : List Value} (h : All2 as vs) : All2 as vs.toArray.toList := by simpa using h

theorem EV.list {es : List Expr} {pos : Pos} (h : EL C A pos es env m H fun as H₁ => as.length ≤ 1000 ∧ ∀ a, Q (.ref a) ((a, .list as) :: H₁)) : EV C A (.List es pos) env m H Q :=
  fun F s Qc E S k => List_ (TL.go h S fun Vs as H₁ h₁ t₁ i q S₁ => by
    refine wpAny_newObj_type (k _ _ _ _ ⟨_, _, rfl, .ref _, q.2 _⟩ (Sat.new S₁ ⟨_, _, rfl, i.toArray⟩)) ?_
    show Vs.toArray.size ≤ sizeLine
    rw [List.size_toArray, i.length]; exact Nat.le_trans q.1 (by decide))
theorem EV.tup {es : List Expr} {kk : Nat} {pos : Pos} (h : EL C A pos es env m H fun as H₁ => as.length ≤ 1000 ∧ ∀ a, Q (.ref a) ((a, .tup as) :: H₁)) : EV C A (.Tuple es kk pos) env m H Q :=
  fun F s Qc E S k => Tuple_ (TL.go h S fun Vs as H₁ h₁ t₁ i q S₁ => by
    refine wpAny_newObj_type (k _ _ _ _ ⟨_, _, rfl, .ref _, q.2 _⟩ (Sat.new S₁ ⟨_, _, rfl, i.toArray⟩)) ?_
    show Vs.toArray.size ≤ sizeLine
    rw [List.size_toArray, i.length]; exact Nat.le_trans q.1 (by decide))

/- dicts -/
theorem DP.length : ∀ {es : List (Str × AV)} {kvs : List (Str × Value)}, DP es kvs → kvs.length = es.length
  | [], [], _ => rfl
  | _ :: _, _ :: _, h => by simp only [List.length_cons]; rw [DP.length h.2.2]
noncomputable def dget (es : List (Str × AV)) (k : Str) : Option AV := (es.find? fun kv => kv.1 = k).map (·.2)
noncomputable def dset (es : List (Str × AV)) (k : Str) (v : AV) : List (Str × AV) := if es.any (fun kv => kv.1 = k) then es.map (fun kv => if kv.1 = k then (kv.1, v) else kv) else es ++ [(k, v)]
theorem DP.get : ∀ {es : List (Str × AV)} {kvs : List (Str × Value)}, DP es kvs → ∀ k, (∃ a v, dget es k = some a ∧ valueAt kvs k = some v ∧ Is a v) ∨ (dget es k = none ∧ valueAt kvs k = none)
  | [], [], _, _ => .inr ⟨rfl, rfl⟩
  | (k', a) :: es, (k'', v) :: kvs, ⟨e, i, h⟩, k => by
    subst e
    unfold dget valueAt
    by_cases q : k' = k
    · exact .inl ⟨a, v, by simp [q], by simp [q], i⟩
    · have := DP.get h k
      unfold dget valueAt at this
      simpa [List.find?_cons, q] using this
theorem DP.any : ∀ {es : List (Str × AV)} {kvs : List (Str × Value)}, DP es kvs → ∀ k, es.any (fun kv => decide (kv.1 = k)) = kvs.any (fun kv => decide (kv.1 = k))
  | [], [], _, _ => rfl
  | (k', a) :: es, (k'', v) :: kvs, ⟨e, i, h⟩, k => by subst e; simp only [List.any_cons, DP.any h k]
theorem DP.app : ∀ {es es' : List (Str × AV)} {kvs kvs' : List (Str × Value)}, DP es kvs → DP es' kvs' → DP (es ++ es') (kvs ++ kvs')
  | [], _, [], _, _, h => h
  | (_, _) :: _, _, (_, _) :: _, _, ⟨e, i, h⟩, h' => ⟨e, i, DP.app h h'⟩
theorem DP.upd : ∀ {es : List (Str × AV)} {kvs : List (Str × Value)}, DP es kvs → ∀ {k : Str} {a : AV} {v : Value}, Is a v → DP (es.map fun kv => if kv.1 = k then (kv.1, a) else kv) (kvs.map fun kv => if kv.1 = k then (kv.1, v) else kv)
  | [], [], _, _, _, _, _ => trivial
  | (k', _) :: es, (k'', _) :: kvs, ⟨e, i, h⟩, k, a, v, j => by
    subst e
    simp only [List.map_cons]
    by_cases q : k' = k
    · simp only [q, if_true]; exact ⟨rfl, j, DP.upd h j⟩
    · simp only [q, if_false]; exact ⟨rfl, i, DP.upd h j⟩
theorem DP.set {es : List (Str × AV)} {kvs : List (Str × Value)} (h : DP es kvs) {k : Str} {a : AV} {v : Value} (i : Is a v) : DP (dset es k a) (stored kvs k v) := by
  unfold dset stored
  rw [h.any k]
  split
  · exact h.upd i
  · exact h.app ⟨rfl, i, trivial⟩
theorem skind_is (C : Cx) (x : Str) (t : Tok) : (strKind C.prog C.w).is x (.str x t) = true := by show Value.isStrOf x (.str x t) = true; simp [Value.isStrOf]
theorem Sat.notMods {h : Heap} {a : Addr} {ao : AO} (G : C.Ok) (S : Sat C H h) (hm : (a, ao) ∈ H) : (a == sysModules) = false := by
  refine beq_eq_false_iff_ne.mpr fun e => ?_
  obtain ⟨o, ho⟩ := G.mods
  have := (S.at_ _ hm).1
  rw [e, ho] at this; cases this

theorem OP.ind {d : Addr} {es : List (Str × AV)} {x : Str} (G : C.Ok) (hm : (d, AO.dict es) ∈ H) (h : Q (.bool (dget es x).isSome) H) : OP2 C A (compareOp .In) (.str x) (.ref d) L m H Q := by
  intro Va Vb ia ib F s Qc E S k; obtain ⟨_, rfl⟩ := ia.inv; obtain ⟨_, rfl⟩ := ib.inv
  have hm' := List.mem_append_left F (List.Mem.tail (L, AO.ns m) hm)
  obtain ⟨kvs, D, p⟩ := S.dict hm'
  refine wpAny_in_of (skind_is C x _) (S.notMods G hm') D.mapOf ?_
  have e : (valueAt kvs x).isSome = (dget es x).isSome := by rcases p.get x with ⟨a, v, e1, e2, _⟩ | ⟨e1, e2⟩ <;> rw [e1, e2] <;> rfl
  rw [e]
  exact k _ _ s.heap _ ⟨_, H, rfl, .bool _, h⟩ S
theorem OP.nind {d : Addr} {es : List (Str × AV)} {x : Str} (G : C.Ok) (hm : (d, AO.dict es) ∈ H) (h : Q (.bool (!(dget es x).isSome)) H) : OP2 C A (compareOp .NotIn) (.str x) (.ref d) L m H Q := by
  intro Va Vb ia ib F s Qc E S k; obtain ⟨_, rfl⟩ := ia.inv; obtain ⟨_, rfl⟩ := ib.inv
  have hm' := List.mem_append_left F (List.Mem.tail (L, AO.ns m) hm)
  obtain ⟨kvs, D, p⟩ := S.dict hm'
  refine wpAny_notIn_of (skind_is C x _) (S.notMods G hm') D.mapOf ?_
  have e : (valueAt kvs x).isSome = (dget es x).isSome := by rcases p.get x with ⟨a, v, e1, e2, _⟩ | ⟨e1, e2⟩ <;> rw [e1, e2] <;> rfl
  rw [e]
  exact k _ _ s.heap _ ⟨_, H, rfl, .bool _, h⟩ S
theorem SUB.dict {value slice : Expr} {d : Addr} {es : List (Str × AV)} {x : Str} {v : AV} (hm : (d, AO.dict es) ∈ H) (hv : dget es x = some v) (h : Q v H)
    (hs : autoParam (∀ t, subscripted slice false (.ref d) (.str x t) = operate [.ref d, .str x t] (getItem (.ref d) (.str x t))) aIU) : SUB C A value slice (.ref d) (.str x) L m H Q := by
  intro Va Vb ia ib F s Qc E S k; obtain ⟨_, rfl⟩ := ia.inv; obtain ⟨_, rfl⟩ := ib.inv
  obtain ⟨kvs, D, p⟩ := S.dict (List.mem_append_left F (List.Mem.tail (L, AO.ns m) hm))
  rcases p.get x with ⟨a, V, e1, e2, i⟩ | ⟨e1, e2⟩
  · rw [hv] at e1; cases e1
    exact tail_any D.typeIs slot_dict_getitem.lookup (wpAny_getItem_of (skind_is C x _) D.mapOf e2 (k _ _ s.heap _ ⟨_, H, rfl, i, h⟩ S)) (hs _)
  · rw [hv] at e1; cases e1

/- stores into items -/
noncomputable def ST (C : Cx) (A : Around) (o i v : AV) (L : Addr) (m : Loc) (H : HS) (Q : HS → Prop) : Prop :=
  ∀ Vo Vi Vv, Is o Vo → Is i Vi → Is v Vv → Tr C A (setItem Vo Vi Vv) ((L, .ns m) :: H) fun _ H' => ∃ H'', H' = (L, .ns m) :: H'' ∧ Q H''
theorem Sat.upd {h h' : Heap} {pre post F : HS} {p : Addr × AO} {a : Addr} {ao ao' : AO} {o' : Obj} (S : Sat C ((p :: (pre ++ (a, ao) :: post)) ++ F) h) (hs : Heap.SameBut a h h') (ho : h'.get? a = some o') (hi : OIs C ao' o') : Sat C ((p :: (pre ++ (a, ao') :: post)) ++ F) h' := by
  have e : ∀ x, (p :: (pre ++ (a, x) :: post)) ++ F = (p :: pre) ++ (a, x) :: (post ++ F) := by intro x; simp
  rw [e] at S ⊢
  exact Sat.set S (fun b o q e => (hs.2 b q).trans e) ho hi
theorem ST.dict {d : Addr} {es : List (Str × AV)} {x : Str} {v : AV} {pre post : HS} {Q : HS → Prop} (hsz : es.length ≤ 1000) (h : Q (pre ++ (d, .dict (dset es x v)) :: post)) : ST C A (.ref d) (.str x) v L m (pre ++ (d, .dict es) :: post) Q := by
  intro Vo Vi Vv io ii iv F s Qc E S k; obtain ⟨_, rfl⟩ := io.inv; obtain ⟨_, rfl⟩ := ii.inv
  obtain ⟨kvs, D, p⟩ := S.dict (l := d) (es := es) (by simp)
  refine wpAny_setItem_pairs (skind_is C x _) D (fun h' D' hs => ?_) (by rw [p.length]; exact Nat.le_trans hsz (by decide))
  obtain ⟨o', ho', hd'⟩ := Heap.dictOf_iff.mp D'
  exact k _ _ _ _ ⟨_, rfl, h⟩ (S.upd hs ho' ⟨_, hd', p.set iv⟩)
theorem All2.set : ∀ {as : List AV} {vs : List Value}, All2 as vs → ∀ {a : AV} {v : Value} (j : Nat), Is a v → All2 (as.set j a) (vs.set j v)
  | [], [], _, _, _, _, _ => trivial
  | _ :: _, _ :: _, h, _, _, 0, i => ⟨i, h.2⟩
  | _ :: _, _ :: _, h, _, _, j + 1, i => ⟨h.1, All2.set h.2 j i⟩
/- a list's object where its make alone is known -/
theorem ST.list {l : Addr} {xs : List AV} {i : Int} {v : AV} {pre post : HS} {Q : HS → Prop} (h0 : 0 ≤ i) (h1 : i < xs.length) (hb : i < 2 ^ 63) (h : Q (pre ++ (l, .list (xs.set i.toNat v)) :: post)) : ST C A (.ref l) (.int i) v L m (pre ++ (l, .list xs) :: post) Q := by
  intro Vo Vi Vv io ii iv F s Qc E S k; obtain ⟨_, rfl⟩ := io.inv; obtain ⟨_, rfl⟩ := ii.inv
  obtain ⟨vs, n, e, r⟩ := S.list (l := l) (xs := xs) (by simp)
  have hlen : vs.size = xs.length := by rw [← r.length]; simp
  refine PySem.W.ki_setAt e h0 hb (by rw [hlen]; exact h1) ?_
  refine k _ _ _ _ ⟨_, rfl, h⟩ (S.upd (Heap.SameBut.update ..) (Heap.get?_update_self _ e rfl) ⟨vs.setIfInBounds i.toNat Vv, _, rfl, ?_⟩)
  have := r.set i.toNat iv
  rw [Array.toList_setIfInBounds]; exact this
end

section
variable {C : Cx} {A : Around} {env : Env} {names : List (Str × NameKind)} {cells : List (Str × Addr)} {m : Loc} {H : HS}

/- an iterator: its object at each place, what the heap must bear meanwhile -/
structure Iter (C : Cx) (A : Around) (I : Addr) (xs : List AV) (it : Nat → AO) (need : HS → Prop) : Prop where
  item : ∀ i x H, xs[i]? = some x → need H → Tr C A (pyNext (.ref I)) ((I, it i) :: H) fun r H' => ∃ V, r = some V ∧ Is x V ∧ H' = (I, it (i + 1)) :: H
  done : ∀ H, need H → Tr C A (pyNext (.ref I)) ((I, it xs.length) :: H) fun r H' => r = none ∧ H' = H
  self : ∀ i H, Tr C A (pyIter (.ref I)) ((I, it i) :: H) fun x H' => x = .ref I ∧ H' = (I, it i) :: H
  owned : ∀ target i V H, Tr C A (letOwnedTupleGo target (.ref I) V) ((I, it i) :: H) fun _ H' => H' = (I, it i) :: H

theorem Sat.head {h h' : Heap} {a : Addr} {ao ao' : AO} {o' : Obj} {H : HS} (S : Sat C ((a, ao) :: H) h) (hs : Heap.SameBut a h h') (ho : h'.get? a = some o') (hi : OIs C ao' o') : Sat C ((a, ao') :: H) h' :=
  Sat.set (pre := []) S (fun b o q e => (hs.2 b q).trans e) ho hi
theorem Sat.tail {h h' : Heap} {a : Addr} {ao : AO} {H : HS} (S : Sat C ((a, ao) :: H) h) (hs : Heap.ExtBut a h h') : Sat C H h' := by
  have nd := S.nd
  simp only [List.map_cons, List.nodup_cons] at nd
  refine ⟨fun b o e => hs b o (fun q => ?_) (S.keep b o e), nd.2, fun p hp => ?_⟩
  · have := (S.at_ (a, ao) (.head _)).1
    rw [← q, e] at this; cases this
  · obtain ⟨e1, o, e2, e3⟩ := S.at_ p (.tail _ hp)
    exact ⟨e1, o, hs _ _ (fun q => nd.1 (q ▸ List.mem_map_of_mem hp)) e2, e3⟩

theorem owned_of {I : Addr} {it : AO} {T : String} (hT : ∀ o, OIs C it o → o.cls = .type T) (hn : (["enumerate", "zip", "dict_itemiterator", "dict_reverseitemiterator", "odict_iterator", "itertools.zip_longest", "itertools.pairwise"] : List String).contains T = false) (target : Expr) (V : Value) (H : HS) :
    Tr C A (letOwnedTupleGo target (.ref I) V) ((I, it) :: H) fun _ H' => H' = (I, it) :: H := by
  intro F s Qc E S k
  have fin : Qc () s := k _ _ s.heap s.toks rfl S
  have key : ∀ a : Addr, wpAny C.M A (do let o ← load I; match o.cls, o.data with
      | .type n, .fields vs => if ["enumerate", "zip", "dict_itemiterator", "dict_reverseitemiterator", "odict_iterator", "itertools.zip_longest", "itertools.pairwise"].contains n && vs[0]? == some (rawInt a) then do rule "for.unpacks-the-owned-tuple"; updateField I 0 .none else pure ()
      | _, _ => pure ()) Qc E s := fun a => by
    obtain ⟨_, o, e, i⟩ := S.at_ (I, it) (.head _)
    refine wpAny_bind (wpAny_load e ?_)
    rw [hT o i]
    cases o.data <;> first | exact wpAny_pure fin | skip
    simp only [hn, Bool.false_and, Bool.false_eq_true, if_false]
    exact wpAny_pure fin
  unfold letOwnedTupleGo
  cases target <;> first | exact wpAny_pure fin | skip
  · cases V <;> first | exact wpAny_pure fin | exact key _
  · cases V <;> first | exact wpAny_pure fin | exact key _

/- over a list -/
theorem Iter.list {l I : Addr} {xs : List AV} (hh : A.handled = none) : Iter C A I xs (fun i => .iter "list_iterator" [.ref l, .int i 0]) (fun H => (l, AO.list xs) ∈ H) where
  item := fun i x H hx hm F s Qc E S k => by
    obtain ⟨vs, n, e, r⟩ := S.list (List.mem_append_left F (List.Mem.tail _ hm))
    obtain ⟨_, o, eo, hc, hd⟩ := S.at_ (I, _) (.head _)
    obtain ⟨V, hV, iV⟩ := r.get hx
    refine wpAny_pyNext_list_item ⟨o, eo, hc, hd⟩ (isList_of e) (x := V) (by simpa using hV) fun h' hit hs => ?_
    obtain ⟨o', eo', hc', hd'⟩ := hit
    exact k _ _ _ s.toks ⟨V, rfl, iV, rfl⟩ (S.head hs eo' ⟨hc', hd'⟩)
  done := fun H hm F s Qc E S k => by
    obtain ⟨vs, n, e, r⟩ := S.list (List.mem_append_left F (List.Mem.tail _ hm))
    obtain ⟨_, o, eo, hc, hd⟩ := S.at_ (I, _) (.head _)
    have hlen : vs.size = xs.length := by rw [← r.length]; simp
    refine wpAny_pyNext_list_end hh ⟨o, eo, hc, hd⟩ (isList_of e) (by simp [hlen]) fun h' hs => ?_
    exact k _ _ _ s.toks ⟨rfl, rfl⟩ (S.tail hs)
  self := fun i H F s Qc E S k => by
    obtain ⟨_, o, eo, hc, hd⟩ := S.at_ (I, _) (.head _)
    exact wpAny_pyIter_listiter ⟨o, eo, hc, hd⟩ (k _ _ s.heap s.toks ⟨rfl, rfl⟩ S)
  owned := fun target i V H => owned_of (C := C) (T := "list_iterator") (it := .iter "list_iterator" [.ref l, .int i 0]) (fun o h => h.1) (by decide) target V H
theorem start_list {l : Addr} {xs : List AV} {H : HS} (hm : (l, AO.list xs) ∈ H) : Tr C A (pyIter (.ref l)) H fun it H' => ∃ I, it = .ref I ∧ H' = (I, .iter "list_iterator" [.ref l, .int (0 : Nat) 0]) :: H := fun F s Qc E S k => by
  obtain ⟨vs, n, e, r⟩ := S.list (List.mem_append_left F hm)
  refine wpAny_pyIter_list (isList_of e) (k _ _ _ s.toks ⟨_, rfl, rfl⟩ (S.push ⟨rfl, rfl⟩))
/- over a tuple -/
theorem Iter.tup {l I : Addr} {xs : List AV} (hh : A.handled = none) : Iter C A I xs (fun i => .iter "tuple_iterator" [.ref l, .int i 0]) (fun H => (l, AO.tup xs) ∈ H) where
  item := fun i x H hx hm F s Qc E S k => by
    obtain ⟨vs, n, e, r⟩ := S.tup (List.mem_append_left F (List.Mem.tail _ hm))
    obtain ⟨_, o, eo, hc, hd⟩ := S.at_ (I, _) (.head _)
    obtain ⟨V, hV, iV⟩ := r.get hx
    refine wpAny_pyNext_tuple_item ⟨o, eo, hc, hd⟩ (isTuple_of e) (x := V) (by simpa using hV) fun h' hit hs => ?_
    obtain ⟨o', eo', hc', hd'⟩ := hit
    exact k _ _ _ s.toks ⟨V, rfl, iV, rfl⟩ (S.head hs eo' ⟨hc', hd'⟩)
  done := fun H hm F s Qc E S k => by
    obtain ⟨vs, n, e, r⟩ := S.tup (List.mem_append_left F (List.Mem.tail _ hm))
    obtain ⟨_, o, eo, hc, hd⟩ := S.at_ (I, _) (.head _)
    have hlen : vs.size = xs.length := by rw [← r.length]; simp
    refine wpAny_pyNext_tuple_end hh ⟨o, eo, hc, hd⟩ (isTuple_of e) (by simp [hlen]) fun h' hs => ?_
    exact k _ _ _ s.toks ⟨rfl, rfl⟩ (S.tail hs)
  self := fun i H F s Qc E S k => by
    obtain ⟨_, o, eo, hc, hd⟩ := S.at_ (I, _) (.head _)
    exact wpAny_pyIter_tupleiter ⟨o, eo, hc, hd⟩ (k _ _ s.heap s.toks ⟨rfl, rfl⟩ S)
  owned := fun target i V H => owned_of (C := C) (T := "tuple_iterator") (it := .iter "tuple_iterator" [.ref l, .int i 0]) (fun o h => h.1) (by decide) target V H
theorem start_tup {l : Addr} {xs : List AV} {H : HS} (hm : (l, AO.tup xs) ∈ H) : Tr C A (pyIter (.ref l)) H fun it H' => ∃ I, it = .ref I ∧ H' = (I, .iter "tuple_iterator" [.ref l, .int (0 : Nat) 0]) :: H := fun F s Qc E S k => by
  obtain ⟨vs, n, e, r⟩ := S.tup (List.mem_append_left F hm)
  refine wpAny_pyIter_tuple (isTuple_of e) (k _ _ _ s.toks ⟨_, rfl, rfl⟩ (S.push ⟨rfl, rfl⟩))

/- over a range -/
noncomputable def rangeL (a c : Int) (n : Nat) : List AV := (List.range n).map fun i : Nat => AV.int (a + i * c)
noncomputable def rngObj (a c : Int) (n i : Nat) : Obj := { cls := .type "range_iterator", data := .fields #[rawInt (a + i * c), rawInt ((n : Int) - i), rawInt c] }
theorem Iter.range {I : Addr} {a c : Int} {n : Nat} (hh : A.handled = none) : Iter C A I (rangeL a c n) (fun i => .raw (rngObj a c n i)) (fun _ => True) where
  item := fun i x H hx hm F s Qc E S k => by
    obtain ⟨_, o, eo, rfl⟩ := S.at_ (I, _) (.head _)
    have hi : i < n := by
      have := List.getElem?_eq_some_iff.mp hx
      simpa [rangeL] using this.1
    refine wpAny_pyNext_range_item eo (by lia) fun h' hit hs => ?_
    have ex : x = .int (a + i * c) := by simp [rangeL, hi] at hx; exact hx.symm
    subst ex
    refine k _ _ _ _ ⟨_, rfl, .int _ _, rfl⟩ (S.head hs hit ?_)
    show _ = rngObj a c n (i + 1)
    unfold rngObj
    have e1 : a + (i : Int) * c + c = a + ((i + 1 : Nat) : Int) * c := by rw [Int.natCast_add, Int.add_mul]; simp; lia
    have e2 : (n : Int) - i - 1 = (n : Int) - ((i + 1 : Nat) : Int) := by lia
    rw [e1, e2]
  done := fun H hm F s Qc E S k => by
    obtain ⟨_, o, eo, rfl⟩ := S.at_ (I, _) (.head _)
    refine wpAny_pyNext_range_end hh eo (by simp [rangeL]) fun h' hs => ?_
    exact k _ _ _ s.toks ⟨rfl, rfl⟩ (S.tail hs)
  self := fun i H F s Qc E S k => by
    obtain ⟨_, o, eo, rfl⟩ := S.at_ (I, _) (.head _)
    exact wpAny_pyIter_rangeiter eo (k _ _ s.heap s.toks ⟨rfl, rfl⟩ S)
  owned := fun target i V H => owned_of (T := "range_iterator") (fun o h => by rw [h]; rfl) (by decide) target V H
theorem start_range {r : Addr} {a b c : Int} {n : Nat} {H : HS} (hm : (r, AO.rng a b c) ∈ H) (hsm : Builtin.Range.small a b c = true) (hn : Builtin.Range.rangeSize a b c = (n : Int)) :
    Tr C A (pyIter (.ref r)) H fun it H' => ∃ I, it = .ref I ∧ H' = (I, .raw (rngObj a c n 0)) :: H := fun F s Qc E S k => by
  obtain ⟨_, o, e, t, u, v, rfl⟩ := S.at_ _ (List.mem_append_left F hm)
  refine wpAny_pyIter_range e hsm ?_
  rw [hn]
  refine k _ _ _ s.toks ⟨_, rfl, rfl⟩ (S.push ?_)
  show _ = rngObj a c n 0
  unfold rngObj
  simp

/- targets -/
noncomputable def ASG (C : Cx) (A : Around) (target : Expr) (v : AV) (env : Env) (m : Loc) (H : HS) (Q : Loc → HS → Prop) : Prop := ∀ V, Is v V → TU C A (assign target env V) env.locals m H Q
theorem ASG.name {x : Str} {p : Pos} {v : AV} {m' : Loc} {Q : Loc → HS → Prop} (E : EnvOk env names cells) (hn : At names x .local) (hp : Put m x v m') (h : Q m' H) : ASG C A (.Name x p) v env m H Q :=
  fun V i F s Qc E' S k => wpAny_assign_Name (store_loc (Q := fun _ H' => H' = (env.locals, .ns m') :: H) E hn hp i rfl F s _ E' S fun _ H' h₂ t₂ e S₂ => by subst e; exact k _ _ _ _ ⟨m', H, rfl, h⟩ S₂)
theorem ASG.cell {x : Str} {p : Pos} {c : Addr} {v u : AV} {pre post : HS} {Q : Loc → HS → Prop} (E : EnvOk env names cells) (hn : At names x .cell) (hc : At cells x c) (h : Q m (pre ++ (c, .cell v) :: post)) : ASG C A (.Name x p) v env m (pre ++ (c, .cell u) :: post) Q :=
  fun V i F s Qc E' S k => wpAny_assign_Name (store_cell (pre := (env.locals, .ns m) :: pre) (Q := fun _ H' => H' = (env.locals, .ns m) :: (pre ++ (c, .cell v) :: post)) E hn hc i rfl F s _ E' S fun _ H' h₂ t₂ e S₂ => by subst e; exact k _ _ _ _ ⟨m, _, rfl, h⟩ S₂)
theorem ASG.pair {x y : Str} {px py p : Pos} {kk : Nat} {a : Addr} {u v : AV} {Q : Loc → HS → Prop} (hh : A.handled = none) (hm : (a, AO.tup [u, v]) ∈ H)
    (h : ASG C A (.Name x px) u env m H fun m₁ H₁ => ASG C A (.Name y py) v env m₁ H₁ Q) : ASG C A (.Tuple [.Name x px, .Name y py] kk p) (.ref a) env m H Q := by
  intro V i F s Qc E S k
  obtain ⟨_, rfl⟩ := i.inv
  obtain ⟨vs, n, e, r⟩ := S.tup (List.mem_append_left F (List.Mem.tail _ hm))
  have hl : vs.toList.length = 2 := r.length
  match hvs : vs.toList, hl with
  | [U, W], _ =>
    rw [hvs] at r
    refine PySem.wpAny_assign_Tuple hh (isTuple_of e) (by show 2 = vs.size; rw [← Array.length_toList, hvs]; rfl) rfl fun h' hs => ?_
    rw [hvs]
    have S₁ : Sat C (((env.locals, .ns m) :: H) ++ F) h' := S.grow fun b o q => hs b o (Nat.ne_of_lt (Heap.lt_size q)) q
    refine wpAny_assignInOrder_more (h U r.1 F { s with heap := h' } _ E S₁ fun _ H' h₁ t₁ q S₂ => ?_)
    obtain ⟨m₁, H₁, rfl, q⟩ := q
    exact wpAny_assignInOrder_more (q W r.2.1 F { s with heap := h₁, toks := t₁ } _ E S₂ fun _ H' h₂ t₂ q S₃ => wpAny_assignInOrder_none (k _ _ _ _ q S₃))

/- loops -/
noncomputable def LOOPQ (Q : FL → Loc → HS → Prop) (K : Loc → HS → Prop) : FL → Loc → HS → Prop
  | .next, m, H => K m H
  | .cont, m, H => K m H
  | .brk, m, H => Q .next m H
  | .ret v, m, H => Q (.ret v) m H
theorem for_core {target : Expr} {body : List Stmt} {I : Addr} {xs : List AV} {it : Nat → AO} {need : HS → Prop} {Q : FL → Loc → HS → Prop} (W : Iter C A I xs it need) (J : Nat → Loc → HS → Prop)
    (hneed : ∀ i m H, J i m H → need ((env.locals, .ns m) :: H))
    (step : ∀ i x m H, xs[i]? = some x → J i m H → ASG C A target x env m H (kRest C A body env (LOOPQ Q (J (i + 1)))))
    (done : ∀ m H, J xs.length m H → Q .next m H) (h0 : J 0 m H) {F : HS} {s : Shared} {Qc : Flow → Shared → Prop} {E : Value → Shared → Prop}
    (S : Sat C (((env.locals, .ns m) :: H) ++ (I, it 0) :: F) s.heap)
    (k : ∀ fl f m' H' h' tk', FIs f fl → Q f m' H' → Sat C (((env.locals, .ns m') :: H') ++ F) h' → Qc fl { s with heap := h', toks := tk' }) :
    codeAny C.M A (.forLoop target (.ref I) body [] env) (fun r s' => match r with | .ok f => Qc f s' | .error e => cameBackBy C.M A env E e s') s := by
  obtain ⟨P, hP⟩ : ∃ P : Nat → Shared → Prop, ∀ n s', P n s' ↔ (∀ R : Prop, (∀ i m H h tk, s' = { s with heap := h, toks := tk } → n + i = xs.length → J i m H → Sat C (((env.locals, .ns m) :: H) ++ (I, it i) :: F) h → R) → R) := ⟨_, fun _ _ => Iff.rfl⟩
  refine codeAny_forLoop_any P ?_ xs.length ((hP _ _).mpr (fun _ kk => kk 0 m H (s.heap) (s.toks) rfl rfl h0 S))
  intro n _ hp
  refine (hP _ _).mp hp _ fun i m H h tk ee1 hn hJ S => ?_
  subst ee1
  have S' : Sat C (((I, it i) :: (env.locals, .ns m) :: H) ++ F) h := S.of_perm (List.perm_middle.symm.trans (by simp))
  by_cases hi : i < xs.length
  · have hx : xs[i]? = some xs[i] := by simp [hi]
    refine W.item i _ _ hx (hneed _ _ _ hJ) F { s with heap := h, toks := tk } _ _ S' fun r H' h₁ t₁ ⟨V, e1, iV, e2⟩ S₁ => ?_
    subst e1; subst e2
    refine W.owned target (i + 1) V _ F { s with heap := h₁, toks := t₁ } _ _ S₁ fun _ H' h₂ t₂ e S₂ => ?_
    subst e
    have S₃ : Sat C (((env.locals, .ns m) :: H) ++ (I, it (i + 1)) :: F) h₂ := S₂.of_perm (List.perm_middle (l₁ := (env.locals, AO.ns m) :: H))
    refine TU.go (step i _ m H hx hJ V iV) (F := ((I, it (i + 1)) :: F)) (s := { s with heap := h₂, toks := t₂ }) S₃ fun m₁ H₁ h₃ t₃ q S₄ => ?_
    refine TF.go q (F := ((I, it (i + 1)) :: F)) (s := { s with heap := h₃, toks := t₃ }) S₄ fun fl f m₂ H₂ h₄ t₄ jf q S₅ => ?_
    have drop : Sat C (((env.locals, .ns m₂) :: H₂) ++ F) h₄ := S₅.of_sublist (by simp)
    cases f <;> cases fl <;> first | cases jf; done | skip
    · exact ⟨n - 1, by omega, (hP _ _).mpr (fun _ kk => kk (i + 1) m₂ H₂ h₄ t₄ rfl (by omega) q S₅)⟩
    · exact k .next .next _ _ _ _ trivial q drop
    · exact ⟨n - 1, by omega, (hP _ _).mpr (fun _ kk => kk (i + 1) m₂ H₂ h₄ t₄ rfl (by omega) q S₅)⟩
    · exact k _ (.ret _) _ _ _ _ jf q drop
  · have hi' : i = xs.length := by lia
    subst hi'
    refine W.done _ (hneed _ _ _ hJ) F { s with heap := h, toks := tk } _ _ S' fun r H' h₁ t₁ ⟨e1, e2⟩ S₁ => ?_
    subst e1; subst e2
    exact wpAny_execs_nil (k .next .next m H h₁ t₁ trivial (done _ _ hJ) S₁)

/- a loop over what can be iterated -/
noncomputable def ITERS (C : Cx) (A : Around) (v : AV) (xs : List AV) (need : HS → Prop) (H : HS) : Prop :=
  ∃ it : Nat → AO, (∀ I, Iter C A I xs it need) ∧ ∀ V, Is v V → Tr C A (pyIter V) H fun x H' => ∃ I, x = .ref I ∧ H' = (I, it 0) :: H
theorem ITERS.list {l : Addr} {xs : List AV} {H : HS} (hh : A.handled = none) (hm : (l, AO.list xs) ∈ H) : ITERS C A (.ref l) xs (fun H => (l, AO.list xs) ∈ H) H := ⟨_, fun I => Iter.list hh, fun V i => by obtain ⟨_, rfl⟩ := i.inv; exact start_list hm⟩
theorem ITERS.tup {l : Addr} {xs : List AV} {H : HS} (hh : A.handled = none) (hm : (l, AO.tup xs) ∈ H) : ITERS C A (.ref l) xs (fun H => (l, AO.tup xs) ∈ H) H := ⟨_, fun I => Iter.tup hh, fun V i => by obtain ⟨_, rfl⟩ := i.inv; exact start_tup hm⟩
theorem ITERS.range {r : Addr} {a b c : Int} {n : Nat} {H : HS} (hh : A.handled = none) (hm : (r, AO.rng a b c) ∈ H) (hsm : Builtin.Range.small a b c = true) (hn : Builtin.Range.rangeSize a b c = (n : Int)) : ITERS C A (.ref r) (rangeL a c n) (fun _ => True) H :=
  ⟨_, fun I => Iter.range hh, fun V i => by obtain ⟨_, rfl⟩ := i.inv; exact start_range hm hsm hn⟩

theorem ES.for {target iter : Expr} {body : List Stmt} {pos : Pos} {Q : FL → Loc → HS → Prop}
    (h : EV C A iter env m H fun v H₁ => ∃ (xs : List AV) (need : HS → Prop) (J : Nat → Loc → HS → Prop), ITERS C A v xs need ((env.locals, .ns m) :: H₁) ∧ J 0 m H₁ ∧ (∀ i m H, J i m H → need ((env.locals, .ns m) :: H)) ∧
      (∀ i x m H, xs[i]? = some x → J i m H → ASG C A target x env m H (kRest C A body env (LOOPQ Q (J (i + 1))))) ∧ (∀ m H, J xs.length m H → Q .next m H))
    (hs : autoParam (∀ x, foldedSetIterable iter env x = pure x) aI) : ES C A (.For target iter body [] pos) env m H Q :=
  fun F s Qc E S k => wpAny_For (TV.go h S fun V v H₁ h₁ t₁ i qq S₁ => by
    obtain ⟨xs, need, J, ⟨it, W, st⟩, h0, hneed, step, done⟩ := qq
    refine st V i F { s with heap := h₁, toks := t₁ } _ E S₁ fun x H' h₂ t₂ ⟨I, e1, e2⟩ S₂ => ?_
    subst e1; subst e2
    exact for_core (s := { s with heap := h₂, toks := t₂ }) (W I) J hneed step done h0 (S₂.of_perm (List.perm_middle (l₁ := (env.locals, AO.ns m) :: H₁))) fun fl f m' H' h' tk' jf q S' => k _ _ _ _ ⟨f, m', H', rfl, jf, q⟩ S') hs
/- weaker states will do for the next turn -/
theorem LOOPQ.weak {t : Sem Flow} {Q : FL → Loc → HS → Prop} {K : Loc → HS → Prop} (h : TF C A t env.locals m H (LOOPQ Q fun m' H' => ∃ m'' H'', Sub ((env.locals, .ns m'') :: H'') ((env.locals, .ns m') :: H') ∧ K m'' H'')) : TF C A t env.locals m H (LOOPQ Q K) :=
  fun F s Qc E S k => h F s Qc E S fun fl H' h' tk' ⟨f, m', H₁, e, jf, q⟩ S' => by
    subst e
    cases f <;> cases fl <;> first | cases jf; done | skip
    · obtain ⟨m'', H'', sub, q⟩ := q; exact k _ _ _ _ ⟨.next, m'', H'', rfl, trivial, q⟩ (sub _ _ _ S')
    · exact k _ _ _ _ ⟨.brk, m', H₁, rfl, trivial, q⟩ S'
    · obtain ⟨m'', H'', sub, q⟩ := q; exact k _ _ _ _ ⟨.cont, m'', H'', rfl, trivial, q⟩ (sub _ _ _ S')
    · exact k _ _ _ _ ⟨.ret _, m', H₁, rfl, jf, q⟩ S'

theorem ES.while {test : Expr} {body : List Stmt} {pos : Pos} {Q : FL → Loc → HS → Prop} (J : Nat → Loc → HS → Prop) (n : Nat) (h0 : J n m H)
    (turn : ∀ n m H, J n m H → ET C A test env m H fun b H₁ => if b = true then EB C A body env m H₁ (LOOPQ Q fun m' H' => ∃ k, k < n ∧ J k m' H') else Q .next m H₁) : ES C A (.While test body [] pos) env m H Q := by
  intro F s Qc E S k
  obtain ⟨P, hP⟩ : ∃ P : Nat → Shared → Prop, ∀ n s', P n s' ↔ (∀ R : Prop, (∀ m H h tk, s' = { s with heap := h, toks := tk } → J n m H → Sat C (((env.locals, .ns m) :: H) ++ F) h → R) → R) := ⟨_, fun _ _ => Iff.rfl⟩
  refine wpAny_While (codeAny_whileLoop P ?_ n ((hP _ _).mpr fun _ kk => kk m H s.heap s.toks rfl h0 S))
  intro n _ hp
  refine (hP _ _).mp hp _ fun m H h tk ee1 hJ S => ?_
  subst ee1
  refine TB.go (turn n m H hJ) (s := { s with heap := h, toks := tk }) S fun b H₁ h₁ t₁ q S₁ => ?_
  cases b
  · exact wpAny_execs_nil (k _ _ _ _ ⟨.next, m, H₁, rfl, trivial, q⟩ S₁)
  · refine TF.go (show EB C A body env m H₁ _ from q) (s := { s with heap := h₁, toks := t₁ }) S₁ fun fl f m₂ H₂ h₂ t₂ jf q S₂ => ?_
    cases f <;> cases fl <;> first | cases jf; done | skip
    · obtain ⟨j, hj, q⟩ := q; exact ⟨j, hj, (hP _ _).mpr fun _ kk => kk m₂ H₂ h₂ t₂ rfl q S₂⟩
    · exact k _ _ _ _ ⟨.next, m₂, H₂, rfl, trivial, q⟩ S₂
    · obtain ⟨j, hj, q⟩ := q; exact ⟨j, hj, (hP _ _).mpr fun _ kk => kk m₂ H₂ h₂ t₂ rfl q S₂⟩
    · exact k _ _ _ _ ⟨.ret _, m₂, H₂, rfl, jf, q⟩ S₂
end

section
variable {α : Type} {C : Cx} {A : Around} {env : Env} {names : List (Str × NameKind)} {cells : List (Str × Addr)} {m : Loc} {H : HS}

theorem Tr.alloc {o : Obj} {ao : AO} (ho : OIs C ao o) (hf : autoParam (o.isFreed = false) aRfl) : Tr C A (PySem.alloc o) H fun a H' => H' = (a, ao) :: H :=
  fun F s Qc E S k => wpAny_alloc (k _ _ _ s.toks rfl (S.push ho hf))

noncomputable def cellNames (names : List (Str × NameKind)) : List Str := (names.filter fun p => p.2 == .cell).map (·.1)
noncomputable def newCells (cs : List Addr) : HS := cs.map fun c => (c, AO.cell .undef)

theorem Tr.mkcells : ∀ (names : List (Str × NameKind)) (cl : List (Str × Addr)) (H : HS),
    Tr C A (forIn names cl fun x (r : List (Str × Addr)) => match x with
      | (name, kind) => if (kind == NameKind.cell) = true then do
          let a ← PySem.alloc { cls := .type "cell", data := .cell none }
          Pure.pure (ForInStep.yield ((name, a) :: r))
        else Pure.pure (ForInStep.yield r)) H
      fun r H' => ∃ cs, cs.length = (cellNames names).length ∧ r = ((cellNames names).zip cs).reverse ++ cl ∧ H' = (newCells cs).reverse ++ H
  | [], cl, H => by
    refine Tr.pure ⟨[], rfl, rfl, rfl⟩
  | (n, kd) :: names, cl, H => by
    rw [List.forIn_cons]
    by_cases hk : (kd == NameKind.cell) = true
    · simp only [hk, if_true, bind_assoc, pure_bind]
      refine Tr.bind (Tr.mono (Tr.alloc (ao := .cell .undef) ⟨none, rfl, fun h => absurd rfl h⟩) fun a H₁ e => ?_)
      subst e
      refine Tr.mono (Tr.mkcells names ((n, a) :: cl) ((a, .cell .undef) :: H)) fun r H' ⟨cs, h1, h2, h3⟩ => ?_
      have e : cellNames ((n, kd) :: names) = n :: cellNames names := by simp [cellNames, hk]
      refine ⟨a :: cs, by rw [e]; simp [h1], ?_, ?_⟩
      · rw [h2, e]; simp
      · rw [h3]; simp [newCells]
    · have hk' : (kd == NameKind.cell) = false := by simpa using hk
      simp only [hk', Bool.false_eq_true, if_false, pure_bind]
      refine Tr.mono (Tr.mkcells names cl H) fun r H' ⟨cs, h1, h2, h3⟩ => ?_
      have e : cellNames ((n, kd) :: names) = cellNames names := by simp [cellNames, hk']
      exact ⟨cs, by rw [e]; exact h1, by rw [e]; exact h2, h3⟩

noncomputable def BND (C : Cx) (A : Around) (env : Env) : List (Str × Value) → HS → (HS → Prop) → Prop
  | [], H, Q => Q H
  | (x, V) :: r, H, Q => Tr C A (storeName env x V) H fun _ H' => BND C A env r H' Q
theorem Tr.binds : ∀ (binds : List (Str × Value)) (H : HS) (Q : HS → Prop), BND C A env binds H Q →
    Tr C A (forIn binds PUnit.unit fun x (_ : PUnit) => match x with | (name, v) => do storeName env name v; Pure.pure (ForInStep.yield PUnit.unit)) H fun _ H' => Q H'
  | [], H, Q, h => Tr.pure h
  | (x, V) :: r, H, Q, h => by
    rw [List.forIn_cons]
    simp only [bind_assoc, pure_bind]
    exact Tr.bind (Tr.mono h fun _ H' h' => Tr.binds r H' Q h')

theorem known_undef {locs : List Str} (nd : locs.Nodup) (f : Str → Option Value) : Known (locs.map fun x => (x, AV.undef)) f :=
  ⟨by rw [List.map_map]; simpa [Function.comp_def] using nd, fun p hp hu => by obtain ⟨x, _, rfl⟩ := List.mem_map.mp hp; exact absurd rfl hu⟩

theorem Tr.newEnv {scope : Scope} {globals : Addr} {cl : List (Str × Addr)} {binds : List (Str × Value)} {qual : Str} {func : Option Addr} {code : Value} {around : Option Env} {builtins : Addr} {locs : List Str} (nd : locs.Nodup) {Q : Env → HS → Prop}
    (h : ∀ L cs, cs.length = (cellNames scope.names).length → BND C A (newEnv scope L globals (((cellNames scope.names).zip cs).reverse ++ cl) qual func code around builtins) binds ((L, .ns (locs.map fun x => (x, .undef))) :: newCells cs ++ H)
      (Q (newEnv scope L globals (((cellNames scope.names).zip cs).reverse ++ cl) qual func code around builtins))) :
    Tr C A (newFunctionEnv scope globals cl binds qual func code around builtins) H Q := by
  unfold newFunctionEnv
  refine Tr.bind (Tr.mono (Tr.alloc (ao := .ns (locs.map fun x => (x, .undef))) ⟨fun _ => none, #[], 0, rfl, fun e he => by simp at he, fun x => rfl, known_undef nd _⟩ (by split <;> rfl)) fun L H₁ e => ?_)
  subst e
  refine Tr.bind (Tr.mono (Tr.mkcells scope.names cl ((L, .ns (locs.map fun x => (x, .undef))) :: H)) fun r H₁ ⟨cs, hl, e1, e2⟩ => ?_)
  subst e1; subst e2
  have hp : Sub ((L, .ns (locs.map fun x => (x, .undef))) :: newCells cs ++ H) ((newCells cs).reverse ++ (L, .ns (locs.map fun x => (x, .undef))) :: H) :=
    Sub.of_perm ((List.Perm.cons _ (List.Perm.append_right _ (List.reverse_perm _).symm)).trans List.perm_middle.symm)
  refine Tr.pre hp ?_
  have := h L cs hl
  cases around with
  | none => exact Tr.bind (Tr.mono (Tr.binds _ _ _ this) fun _ H' q => Tr.pure q)
  | some o => exact Tr.bind (Tr.mono (Tr.binds _ _ _ this) fun _ H' q => Tr.pure q)

theorem lookup_rev {β : Type} {l : List (Str × β)} (nd : (l.map (·.1)).Nodup) (x : Str) : l.reverse.lookup x = l.lookup x := by
  induction l with
  | nil => rfl
  | cons p l ih =>
    obtain ⟨pk, pv⟩ := p
    rw [List.map_cons, List.nodup_cons] at nd
    rw [List.reverse_cons, List.lookup_append, ih nd.2, List.lookup_cons]
    by_cases h : x = pk
    · subst h
      have : l.lookup x = none := by
        rw [List.lookup_eq_none_iff]
        intro q hq
        exact bne_iff_ne.mpr fun e => nd.1 (List.mem_map.mpr ⟨q, hq, e.symm⟩)
      simp [this]
    · have : (x == pk) = false := beq_eq_false_iff_ne.mpr h
      rw [this, List.lookup_cons, this]; simp
theorem lookup_mem {β : Type} {l : List (Str × β)} (nd : (l.map (·.1)).Nodup) {x : Str} {c : β} (h : (x, c) ∈ l) : l.lookup x = some c := by
  induction l with
  | nil => cases h
  | cons p l ih =>
    obtain ⟨pk, pv⟩ := p
    rw [List.map_cons, List.nodup_cons] at nd
    rw [List.lookup_cons]
    rcases List.mem_cons.mp h with e | h
    · cases e; simp
    · have h' := List.mem_map_of_mem (f := fun p : Str × β => p.1) h
      have : (x == pk) = false := beq_eq_false_iff_ne.mpr fun e => nd.1 (by rw [← e]; exact h')
      rw [this]; exact ih nd.2 h
theorem At.of_mem {β : Type} {l : List (Str × β)} {x : Str} {c : β} (h : (x, c) ∈ l) : At l x c := by
  induction l with
  | nil => cases h
  | cons p l ih =>
    rcases List.mem_cons.mp h with e | h
    · subst e; exact .head
    · exact .tail (ih h)

/- binding the parameters -/
noncomputable def STN (C : Cx) (A : Around) (env : Env) (x : Str) (v : AV) (m : Loc) (H : HS) (Q : Loc → HS → Prop) : Prop := ∀ V, Is v V → TU C A (storeName env x V) env.locals m H Q
theorem STN.loc {x : Str} {v : AV} {m' : Loc} {Q : Loc → HS → Prop} (E : EnvOk env names cells) (hn : At names x .local) (hp : Put m x v m') (h : Q m' H) : STN C A env x v m H Q :=
  fun V i => store_loc E hn hp i ⟨m', H, rfl, h⟩
theorem STN.cell {x : Str} {c : Addr} {v u : AV} {pre post : HS} {Q : Loc → HS → Prop} (E : EnvOk env names cells) (hn : At names x .cell) (hc : At cells x c) (h : Q m (pre ++ (c, .cell v) :: post)) : STN C A env x v m (pre ++ (c, .cell u) :: post) Q :=
  fun V i => store_cell (pre := (env.locals, .ns m) :: pre) E hn hc i ⟨m, _, rfl, h⟩
noncomputable def BNDA (C : Cx) (A : Around) (env : Env) : List (Str × AV) → Loc → HS → (Loc → HS → Prop) → Prop
  | [], m, H, Q => Q m H
  | (x, v) :: r, m, H, Q => STN C A env x v m H fun m' H' => BNDA C A env r m' H' Q
theorem BNDA.to : ∀ {ps : List Str} {as : List AV} {Vs : List Value} {m : Loc} {H : HS} {Q : Loc → HS → Prop}, All2 as Vs → ps.length = as.length → BNDA C A env (ps.zip as) m H Q →
    BND C A env (ps.zip Vs) ((env.locals, .ns m) :: H) fun H' => ∃ m' H'', H' = (env.locals, .ns m') :: H'' ∧ Q m' H''
  | [], [], [], m, H, Q, _, _, h => ⟨m, H, rfl, h⟩
  | p :: ps, a :: as, V :: Vs, m, H, Q, ⟨i, r⟩, e, h => Tr.mono (h V i) fun _ H' ⟨m', H'', e', h'⟩ => by subst e'; exact BNDA.to r (by simpa using e) h'
  | [], [], _ :: _, _, _, _, h, _, _ => h.elim
  | _ :: _, [], _, _, _, _, _, e, _ => by simp at e
  | [], _ :: _, _, _, _, _, _, e, _ => by simp at e

/- a def's object as it stands at the call -/
structure FnS (fd : FuncData) (body : List Stmt) (names : List (Str × NameKind)) (cl : List (Str × Addr)) : Prop where
  body_ : fd.body = .stmts body
  names_ : fd.scope.names = names
  kind : fd.scope.kind = .function
  co : fd.scope.isCoroutine = false
  gen : fd.scope.isGenerator = false
  globals : fd.globals = mainGlobals
  builtins : fd.builtins = builtinsNs
  closure : ∀ x c, At cl x c → fd.closure.lookup x = some c
noncomputable def FnHere (C : Cx) (H : HS) (f : Addr) (fd : FuncData) : Prop := ∀ F h, Sat C (H ++ F) h → (∃ o, h.get? f = some o ∧ o.data = .func fd) ∧ h.CodeRec fd.code fd.qualname
theorem Fn.here {f : Addr} {fd : FuncData} {body : List Stmt} (X : Fn C f fd body names) : FnHere C H f fd := fun F h S =>
  ⟨let ⟨o, ho, hd⟩ := X.ob; ⟨o, S.keep _ _ ho, hd⟩, X.code.keeps S.keep⟩
theorem Fn.st {f : Addr} {fd : FuncData} {body : List Stmt} (X : Fn C f fd body names) : FnS fd body names [] := ⟨X.body_, X.names_, X.kind, X.co, X.gen, X.globals, X.builtins, fun _ _ h => nomatch h⟩

/- a code, as TV is for a tree -/
noncomputable def CK (C : Cx) (A : Around) (c : Code) (L : Addr) (m : Loc) (H : HS) (Q : AV → HS → Prop) : Prop :=
  ∀ (F : HS) (s : Shared) (Qc E : Value → Shared → Prop), Sat C (((L, .ns m) :: H) ++ F) s.heap →
    (∀ V H' h' tk', (∃ v H'', H' = (L, AO.ns m) :: H'' ∧ Is v V ∧ Q v H'') → Sat C (H' ++ F) h' → Qc V { s with heap := h', toks := tk' }) →
    codeAny C.M A c (fun r s' => match r with | .ok (.ret v) => Qc v s' | .ok _ => False | .error e => E e s') s
theorem CK.tv {f : Value} {Vs : List Value} {kws : List (Str × Value)} {L : Addr} {Q : AV → HS → Prop} (h : CK C A (.call f ⟨Vs, kws⟩) L m H Q) : TV C A (call f Vs kws) L m H Q :=
  fun F s Qc E S k => wpAny_call (h F s Qc E S k)
theorem enterC {f : Addr} {fd : FuncData} {body : List Stmt} {ps locs : List Str} {args : List AV} {kws : List (Str × Value)} {cl : List (Str × Addr)} {L : Addr} {Q : AV → HS → Prop} {n : Nat} (G : C.Ok) (X : FnHere C ((L, .ns m) :: H) f fd) (Y : FnS fd body names cl) (R : Rm A (n + 1))
    (Vs : List Value) (Ws : List Value) (hV : All2 args Ws)
    (hp : ∀ s : Shared, (∀ b o, C.h₀.get? b = some o → s.heap.get? b = some o) → BindsTo s fd ⟨Vs, kws⟩ (ps.zip Ws)) (hl : ps.length = args.length)
    (st : (names.map (·.1)).Nodup ∧ (∀ p ∈ names, p.2 ≠ .globalImplicit → p.1 ≠ "__debug__") ∧ locs.Nodup ∧ (cellNames names ++ cl.map (·.1)).Nodup)
    (h : ∀ env cs, cs.length = (cellNames names).length → EnvOk env names ((cellNames names).zip cs ++ cl) → (env.code = fd.code ∧ env.qual = fd.qualname ++ ".<locals>.") →
      BNDA C A.in1 env (ps.zip args) (locs.map fun x => (x, .undef)) (newCells cs ++ (L, .ns m) :: H) fun m₁ H₁ => EB C (A.deeper env) body env m₁ H₁ (RET L m Q)) :
    CK C A (.call (.ref f) ⟨Vs, kws⟩) L m H Q := by
  intro F s Qc E S k
  obtain ⟨⟨o, ho, hd⟩, hcd⟩ := X F s.heap S
  refine codeAny_call_function R.room ho hd Y.co Y.gen Y.body_ hcd (hp s S.keep _ _ _ _ ?_)
  refine Tr.newEnv (H := (L, .ns m) :: H) (locs := locs) st.2.2.1 (Q := fun env' H' => ∃ m' H'', H' = (env'.locals, .ns m') :: H'' ∧ EB C (A.deeper env') body env' m' H'' (RET L m Q)) (fun L' cs hc => ?_) F s _ _ S fun env' H' h₁ t₁ ⟨m', H'', e, q⟩ S₁ => ?_
  · have E₁ : EnvOk (newEnv fd.scope L' fd.globals (((cellNames fd.scope.names).zip cs).reverse ++ fd.closure) (fd.qualname ++ ".<locals>.") (some f) fd.code none fd.builtins) names ((cellNames names).zip cs ++ cl) := by
      refine ⟨Y.kind, Y.names_, st.1, st.2.1, Y.globals, Y.builtins, fun x c hx => ?_⟩
      show (((cellNames fd.scope.names).zip cs).reverse ++ fd.closure).lookup x = some c
      rw [Y.names_] at hc ⊢
      have ek : ((cellNames names).zip cs).map (·.1) = cellNames names := List.map_fst_zip (Nat.le_of_eq hc.symm)
      have ndc : (((cellNames names).zip cs).map (·.1)).Nodup := by rw [ek]; exact (List.nodup_append.mp st.2.2.2).1
      have rev := lookup_rev ndc x
      rw [List.lookup_append, rev]
      rcases List.mem_append.mp hx.mem with q | q
      · rw [lookup_mem ndc q]; rfl
      · have : ((cellNames names).zip cs).lookup x = none := by
          rw [List.lookup_eq_none_iff]
          intro p hp
          refine bne_iff_ne.mpr fun e => ?_
          have h1 : p.1 ∈ cellNames names := ek ▸ List.mem_map_of_mem hp
          exact (List.nodup_append.mp st.2.2.2).2.2 _ h1 _ (List.mem_map_of_mem q) e.symm
        rw [this, Option.none_or]
        exact Y.closure _ _ (At.of_mem q)
    refine BNDA.to hV hl ?_
    exact h _ cs (by rw [← Y.names_]; exact hc) E₁ ⟨rfl, rfl⟩
  · subst e
    refine ⟨G.nolimit.keeps S₁.keep, codeAny_func ?_⟩
    refine q F { s with heap := h₁, toks := t₁ } _ _ S₁ fun fl H' h₂ t₂ ⟨f', m₂, H₂, e, i, q⟩ S₂ => ?_
    subst e
    have fin : ∀ {H'' : HS} {v : AV} {V : Value}, Sub ((L, .ns m) :: H'') H₂ → Is v V → Q v H'' → Qc V { s with heap := h₂, toks := t₂ } := fun hs i q =>
      k _ _ _ _ ⟨_, _, rfl, i, q⟩ (hs _ _ _ (S₂.of_sublist (List.sublist_cons_self ..)))
    cases f' <;> cases fl <;> first | cases i; done | skip
    · obtain ⟨H'', hs, q⟩ := q; exact fin hs .none q
    · obtain ⟨H'', hs, q⟩ := q; exact fin hs .none q
    · obtain ⟨H'', hs, q⟩ := q; exact fin hs .none q
    · obtain ⟨H'', hs, q⟩ := q; exact fin hs i q
end

theorem compLoopL {prog : Program} {w : World} {A : Around} {R : Result → Shared → Prop} {s : Shared} {elt target iter : Expr} {ifs : List Expr} {scope : Scope} {pos : Pos} {it acc : Value} {env : Env} (I : Nat → Shared → Prop)
    (turn : ∀ n s, I n s → wpAny (model prog w) A (pyNext it) (fun r s₁ => match r with
      | none => R (.ok .next) s₁
      | some v => wpAny (model prog w) A (letOwnedTupleGo target it v) (fun _ s₁' => wpAny (model prog w) A (assign target env v) (fun _ s₂ =>
          wpAny (model prog w) A (forIn ifs true fun c r => if r = true then do let ok ← isTrue c env (eval c env); pure (ForInStep.yield ok) else pure (ForInStep.yield r)) (fun ok s₃ =>
            if ok = true then wpAny (model prog w) A (eval elt env) (fun x s₄ =>
              wpAny (model prog w) A (call (.builtin "list.append") [acc, x]) (fun _ s₅ => ∃ m, m < n ∧ I m s₅) (notedBy (model prog w) A env fun e s' => R (.error e) s') s₄) (notedBy (model prog w) A env fun e s' => R (.error e) s') s₃
            else ∃ m, m < n ∧ I m s₃) (notedBy (model prog w) A env fun e s' => R (.error e) s') s₂) (notedBy (model prog w) A env fun e s' => R (.error e) s') s₁') (notedBy (model prog w) A env fun e s' => R (.error e) s') s₁) (notedBy (model prog w) A env fun e s' => R (.error e) s') s)
    (n : Nat) (h : I n s) : codeAny (model prog w) A (.compLoop (.ListComp elt [⟨target, iter, ifs, 0⟩] scope pos) 0 it acc env) R s := by
  refine codeAny_loop rfl I (fun n s hI => ?_) n h
  show wpAny _ A ((compTurn (.ListComp elt [⟨target, iter, ifs, 0⟩] scope pos) 0 it acc env).onRaise (fun x => do noteFrame x env; theTreesLotGoes x)) _ _ s
  refine wpAny_noted ?_
  rw [compTurn_list]
  refine wpAny_bind (wpAny_standAt (wpAny_bind (wpAny_mono (turn n s hI) (fun r s₁ h₁ => ?_) fun _ _ h' => h')))
  cases r with
  | none => exact wpAny_pure h₁
  | some v =>
    refine wpAny_bind (wpAny_mono h₁ (fun _ s₁' h₁' => ?_) fun _ _ h' => h')
    refine wpAny_bind (wpAny_mono h₁' (fun _ s₂ h₂ => wpAny_bind (wpAny_mono h₂ (fun ok s₃ h₃ => ?_) fun _ _ h' => h')) fun _ _ h' => h')
    cases ok with
    | false => exact wpAny_pure ⟨rfl, h₃⟩
    | true =>
      exact wpAny_bind (wpAny_bind (wpAny_mono h₃ (fun x s₄ h₄ => wpAny_bind (wpAny_mono h₄ (fun _ s₅ h₅ => wpAny_pure (wpAny_pure ⟨rfl, h₅⟩)) fun _ _ h' => h')) fun _ _ h' => h'))
theorem compLoopD {prog : Program} {w : World} {A : Around} {R : Result → Shared → Prop} {s : Shared} {kx vx target iter : Expr} {ifs : List Expr} {scope : Scope} {pos : Pos} {it : Value} {D : Addr} {env : Env} (I : Nat → Shared → Prop)
    (turn : ∀ n s, I n s → wpAny (model prog w) A (pyNext it) (fun r s₁ => match r with
      | none => R (.ok .next) s₁
      | some v => wpAny (model prog w) A (letOwnedTupleGo target it v) (fun _ s₁' => wpAny (model prog w) A (assign target env v) (fun _ s₂ =>
          wpAny (model prog w) A (forIn ifs true fun c r => if r = true then do let ok ← isTrue c env (eval c env); pure (ForInStep.yield ok) else pure (ForInStep.yield r)) (fun ok s₃ =>
            if ok = true then wpAny (model prog w) A (eval kx env) (fun kv s₄ => wpAny (model prog w) A (eval vx env) (fun vv s₅ =>
              wpAny (model prog w) A (dictSet D kv vv) (fun _ s₆ => ∃ m, m < n ∧ I m s₆) (notedBy (model prog w) A env fun e s' => R (.error e) s') s₅) (notedBy (model prog w) A env fun e s' => R (.error e) s') s₄) (notedBy (model prog w) A env fun e s' => R (.error e) s') s₃
            else ∃ m, m < n ∧ I m s₃) (notedBy (model prog w) A env fun e s' => R (.error e) s') s₂) (notedBy (model prog w) A env fun e s' => R (.error e) s') s₁') (notedBy (model prog w) A env fun e s' => R (.error e) s') s₁) (notedBy (model prog w) A env fun e s' => R (.error e) s') s)
    (n : Nat) (h : I n s) : codeAny (model prog w) A (.compLoop (.DictComp kx vx [⟨target, iter, ifs, 0⟩] scope pos) 0 it (.ref D) env) R s := by
  refine codeAny_loop rfl I (fun n s hI => ?_) n h
  show wpAny _ A ((compTurn (.DictComp kx vx [⟨target, iter, ifs, 0⟩] scope pos) 0 it (.ref D) env).onRaise (fun x => do noteFrame x env; theTreesLotGoes x)) _ _ s
  refine wpAny_noted ?_
  rw [compTurn_dict]
  refine wpAny_bind (wpAny_standAt (wpAny_bind (wpAny_mono (turn n s hI) (fun r s₁ h₁ => ?_) fun _ _ h' => h')))
  cases r with
  | none => exact wpAny_pure h₁
  | some v =>
    refine wpAny_bind (wpAny_mono h₁ (fun _ s₁' h₁' => ?_) fun _ _ h' => h')
    refine wpAny_bind (wpAny_mono h₁' (fun _ s₂ h₂ => wpAny_bind (wpAny_mono h₂ (fun ok s₃ h₃ => ?_) fun _ _ h' => h')) fun _ _ h' => h')
    cases ok with
    | false => exact wpAny_pure ⟨rfl, h₃⟩
    | true =>
      exact wpAny_bind (wpAny_bind (wpAny_mono h₃ (fun kv s₄ h₄ => wpAny_bind (wpAny_holding (wpAny_mono h₄ (fun vv s₅ h₅ => wpAny_bind (wpAny_standAt (wpAny_holding (wpAny_mono h₅ (fun _ s₆ h₆ => wpAny_pure ⟨rfl, h₆⟩) fun _ _ h' => h')))) fun _ _ h' => h'))) fun _ _ h' => h'))

section
variable {C : Cx} {A : Around} {env cenv : Env} {names : List (Str × NameKind)} {cells : List (Str × Addr)} {m mc : Loc} {H : HS}

noncomputable def IFS (C : Cx) (A : Around) (env : Env) : List Expr → Loc → HS → (Bool → HS → Prop) → Prop
  | [], _, H, Q => Q true H
  | c :: r, m, H, Q => ET C A c env m H fun b H' => if b = true then IFS C A env r m H' Q else Q false H'
theorem ifs_false (env : Env) (ifs : List Expr) : (forIn ifs false fun c r => if r = true then do let ok ← isTrue c env (eval c env); pure (ForInStep.yield ok) else pure (ForInStep.yield r) : Sem Bool) = pure false := by
  induction ifs with
  | nil => rfl
  | cons c r ih => rw [List.forIn_cons]; simp only [Bool.false_eq_true, if_false, pure_bind]; exact ih
theorem IFS.to : ∀ {ifs : List Expr} {m : Loc} {H : HS} {Q : Bool → HS → Prop}, IFS C A env ifs m H Q →
    TB C A (forIn ifs true fun c r => if r = true then do let ok ← isTrue c env (eval c env); pure (ForInStep.yield ok) else pure (ForInStep.yield r)) env.locals m H Q
  | [], m, H, Q, h => Tr.pure ⟨H, rfl, h⟩
  | c :: r, m, H, Q, h => by
    unfold TB
    rw [List.forIn_cons]
    simp only [if_true, bind_assoc, pure_bind]
    refine Tr.bind (Tr.mono h fun b H' ⟨H'', e, q⟩ => ?_)
    subst e
    cases b
    · rw [ifs_false]; exact Tr.pure ⟨H'', rfl, q⟩
    · exact IFS.to q

theorem perm3 {X F : HS} {d i : Addr × AO} : (X ++ d :: i :: F).Perm ((i :: X) ++ d :: F) := by
  have : X ++ d :: i :: F = (X ++ [d]) ++ i :: F := by simp
  rw [this]
  exact List.perm_middle.trans (by simp)

theorem comp_list {target elt iter : Expr} {ifs : List Expr} {scope : Scope} {pos : Pos} {I D : Addr} {xs : List AV} {it : Nat → AO} {need : HS → Prop} (W : Iter C A I xs it need) (J : Nat → List AV → HS → Prop)
    (hneed : ∀ i ys H, J i ys H → need ((cenv.locals, .ns mc) :: H))
    (step : ∀ i x ys H, xs[i]? = some x → J i ys H → ASG C A target x cenv mc H fun m₁ H₁ => IFS C A cenv ifs m₁ H₁ fun ok H₂ =>
      if ok = true then EV C A elt cenv m₁ H₂ fun y H₃ => ∃ H', Sub ((cenv.locals, .ns mc) :: H') ((cenv.locals, .ns m₁) :: H₃) ∧ J (i + 1) (ys ++ [y]) H'
      else ∃ H', Sub ((cenv.locals, .ns mc) :: H') ((cenv.locals, .ns m₁) :: H₂) ∧ J (i + 1) ys H')
    (hsz : xs.length ≤ 1000) (h0 : J 0 [] H) {F : HS} {s : Shared} {R : Result → Shared → Prop}
    (S : Sat C (((cenv.locals, .ns mc) :: H) ++ (D, .list []) :: (I, it 0) :: F) s.heap)
    (k : ∀ ys H' h' tk', J xs.length ys H' → Sat C (((cenv.locals, .ns mc) :: H') ++ (D, .list ys) :: F) h' → R (.ok .next) { s with heap := h', toks := tk' }) :
    codeAny C.M A (.compStart (.ListComp elt [⟨target, iter, ifs, 0⟩] scope pos) 0 (.ref I) (.ref D) cenv) R s := by
  have loop : ∀ s' : Shared, (∃ h tk, s' = { s with heap := h, toks := tk } ∧ Sat C (((cenv.locals, .ns mc) :: H) ++ (D, .list []) :: (I, it 0) :: F) h) →
      codeAny C.M A (.compLoop (.ListComp elt [⟨target, iter, ifs, 0⟩] scope pos) 0 (.ref I) (.ref D) cenv) R s' := by
    rintro _ ⟨h, tk, rfl, S⟩
    obtain ⟨P, hP⟩ : ∃ P : Nat → Shared → Prop, ∀ n s', P n s' ↔ (∀ R : Prop, (∀ i ys H h tk, s' = { s with heap := h, toks := tk } → n + i = xs.length → ys.length ≤ i → J i ys H → Sat C (((cenv.locals, .ns mc) :: H) ++ (D, .list ys) :: (I, it i) :: F) h → R) → R) := ⟨_, fun _ _ => Iff.rfl⟩
    refine compLoopL P ?_ xs.length ((hP _ _).mpr (fun _ kk => kk 0 [] H h tk rfl rfl (Nat.le_refl _) h0 S))
    intro n _ hp
    refine (hP _ _).mp hp _ fun i ys H h tk ee1 hn hy hJ S => ?_
    subst ee1
    have S' := S.of_perm perm3.symm
    by_cases hi : i < xs.length
    · have hx : xs[i]? = some xs[i] := by simp [hi]
      refine W.item i _ _ hx (hneed _ _ _ hJ) ((D, .list ys) :: F) { s with heap := h, toks := tk } _ _ S' fun r H' h₁ t₁ ⟨V, e1, iV, e2⟩ S₁ => ?_
      subst e1; subst e2
      refine W.owned target (i + 1) V _ ((D, .list ys) :: F) { s with heap := h₁, toks := t₁ } _ _ S₁ fun _ H' h₂ t₂ e S₂ => ?_
      subst e
      have S₃ := S₂.of_perm (perm3 (X := (cenv.locals, .ns mc) :: H) (d := (D, .list ys)) (i := (I, it (i + 1))) (F := F))
      refine TU.go (step i _ ys H hx hJ V iV) (F := ((D, .list ys) :: (I, it (i + 1)) :: F)) (s := { s with heap := h₂, toks := t₂ }) S₃ fun m₁ H₁ h₃ t₃ q S₄ => ?_
      refine TB.go q.to (F := ((D, .list ys) :: (I, it (i + 1)) :: F)) (s := { s with heap := h₃, toks := t₃ }) S₄ fun ok H₂ h₄ t₄ q S₅ => ?_
      cases ok
      · obtain ⟨H', sub, q⟩ := q
        exact ⟨n - 1, by omega, (hP _ _).mpr (fun _ kk => kk (i + 1) ys H' h₄ t₄ rfl (by omega) (by lia) q (sub _ _ _ S₅))⟩
      · refine TV.go q (F := ((D, .list ys) :: (I, it (i + 1)) :: F)) (s := { s with heap := h₄, toks := t₄ }) S₅ fun V y H₃ h₅ t₅ iy qq S₆ => ?_
        obtain ⟨H', sub, q⟩ := qq
        have S₇ := sub _ _ _ S₆
        obtain ⟨vs, nn, e, r⟩ := S₇.list (l := D) (xs := ys) (by simp)
        have hlen : vs.size = ys.length := by rw [← r.length]; simp
        refine wpAny_list_append_plain ⟨nn, e⟩ (fun h₆ ⟨n₆, hp⟩ hs => ?_) (by rw [hlen]; exact Nat.le_trans (Nat.le_trans hy (Nat.le_trans (Nat.le_of_lt hi) hsz)) (by decide))
        refine ⟨n - 1, by omega, (hP _ _).mpr (fun _ kk => kk (i + 1) (ys ++ [y]) H' h₆ t₅ rfl (by omega) (by simp; omega) q ?_)⟩
        exact Sat.set (pre := (cenv.locals, .ns mc) :: H') S₇ (fun b o q e => (hs.2 b q).trans e) hp ⟨_, _, rfl, by rw [Array.toList_push]; exact r.append ⟨iy, trivial⟩⟩
    · have hi' : i = xs.length := by lia
      subst hi'
      refine W.done _ (hneed _ _ _ hJ) ((D, .list ys) :: F) { s with heap := h, toks := tk } _ _ S' fun r H' h₁ t₁ ⟨e1, e2⟩ S₁ => ?_
      subst e1; subst e2
      exact k ys H h₁ t₁ hJ S₁
  refine codeAny_compStart_list (loop s ⟨s.heap, s.toks, rfl, S⟩) ?_
  exact W.self 0 _ ((D, .list []) :: F) s _ _ (S.of_perm perm3.symm) fun x H' h₁ t₁ ⟨e1, e2⟩ S₁ => by
    subst e1; subst e2
    exact loop _ ⟨h₁, t₁, rfl, S₁.of_perm (perm3 (X := (cenv.locals, .ns mc) :: H) (d := (D, .list [])) (i := (I, it 0)) (F := F))⟩

theorem comp_dict {target kx vx iter : Expr} {ifs : List Expr} {scope : Scope} {pos : Pos} {I D : Addr} {xs : List AV} {it : Nat → AO} {need : HS → Prop} (W : Iter C A I xs it need) (J : Nat → List (Str × AV) → HS → Prop)
    (hneed : ∀ i ys H, J i ys H → need ((cenv.locals, .ns mc) :: H))
    (step : ∀ i x ys H, xs[i]? = some x → J i ys H → ASG C A target x cenv mc H fun m₁ H₁ => IFS C A cenv ifs m₁ H₁ fun ok H₂ =>
      if ok = true then EV C A kx cenv m₁ H₂ fun kv H₃ => ∃ y, kv = .str y ∧ EV C A vx cenv m₁ H₃ fun v H₄ => ∃ H', Sub ((cenv.locals, .ns mc) :: H') ((cenv.locals, .ns m₁) :: H₄) ∧ J (i + 1) (dset ys y v) H'
      else ∃ H', Sub ((cenv.locals, .ns mc) :: H') ((cenv.locals, .ns m₁) :: H₂) ∧ J (i + 1) ys H')
    (hsz : xs.length ≤ 1000) (h0 : J 0 [] H) {F : HS} {s : Shared} {R : Result → Shared → Prop}
    (S : Sat C (((cenv.locals, .ns mc) :: H) ++ (D, .dict []) :: (I, it 0) :: F) s.heap)
    (k : ∀ ys H' h' tk', J xs.length ys H' → Sat C (((cenv.locals, .ns mc) :: H') ++ (D, .dict ys) :: F) h' → R (.ok .next) { s with heap := h', toks := tk' }) :
    codeAny C.M A (.compStart (.DictComp kx vx [⟨target, iter, ifs, 0⟩] scope pos) 0 (.ref I) (.ref D) cenv) R s := by
  have loop : ∀ s' : Shared, (∃ h tk, s' = { s with heap := h, toks := tk } ∧ Sat C (((cenv.locals, .ns mc) :: H) ++ (D, .dict []) :: (I, it 0) :: F) h) →
      codeAny C.M A (.compLoop (.DictComp kx vx [⟨target, iter, ifs, 0⟩] scope pos) 0 (.ref I) (.ref D) cenv) R s' := by
    rintro _ ⟨h, tk, rfl, S⟩
    obtain ⟨P, hP⟩ : ∃ P : Nat → Shared → Prop, ∀ n s', P n s' ↔ (∀ R : Prop, (∀ i ys H h tk, s' = { s with heap := h, toks := tk } → n + i = xs.length → ys.length ≤ i → J i ys H → Sat C (((cenv.locals, .ns mc) :: H) ++ (D, .dict ys) :: (I, it i) :: F) h → R) → R) := ⟨_, fun _ _ => Iff.rfl⟩
    refine compLoopD P ?_ xs.length ((hP _ _).mpr (fun _ kk => kk 0 [] H h tk rfl rfl (Nat.le_refl _) h0 S))
    intro n _ hp
    refine (hP _ _).mp hp _ fun i ys H h tk ee1 hn hy hJ S => ?_
    subst ee1
    have S' := S.of_perm perm3.symm
    by_cases hi : i < xs.length
    · have hx : xs[i]? = some xs[i] := by simp [hi]
      refine W.item i _ _ hx (hneed _ _ _ hJ) ((D, .dict ys) :: F) { s with heap := h, toks := tk } _ _ S' fun r H' h₁ t₁ ⟨V, e1, iV, e2⟩ S₁ => ?_
      subst e1; subst e2
      refine W.owned target (i + 1) V _ ((D, .dict ys) :: F) { s with heap := h₁, toks := t₁ } _ _ S₁ fun _ H' h₂ t₂ e S₂ => ?_
      subst e
      have S₃ := S₂.of_perm (perm3 (X := (cenv.locals, .ns mc) :: H) (d := (D, .dict ys)) (i := (I, it (i + 1))) (F := F))
      refine TU.go (step i _ ys H hx hJ V iV) (F := ((D, .dict ys) :: (I, it (i + 1)) :: F)) (s := { s with heap := h₂, toks := t₂ }) S₃ fun m₁ H₁ h₃ t₃ q S₄ => ?_
      refine TB.go q.to (F := ((D, .dict ys) :: (I, it (i + 1)) :: F)) (s := { s with heap := h₃, toks := t₃ }) S₄ fun ok H₂ h₄ t₄ q S₅ => ?_
      cases ok
      · obtain ⟨H', sub, q⟩ := q
        exact ⟨n - 1, by omega, (hP _ _).mpr (fun _ kk => kk (i + 1) ys H' h₄ t₄ rfl (by omega) (by lia) q (sub _ _ _ S₅))⟩
      · refine TV.go q (F := ((D, .dict ys) :: (I, it (i + 1)) :: F)) (s := { s with heap := h₄, toks := t₄ }) S₅ fun KV kv H₃ h₅ t₅ ik qq S₆ => ?_
        obtain ⟨y, ey, q⟩ := qq
        subst ey; obtain ⟨_, rfl⟩ := ik.inv
        refine TV.go q (F := ((D, .dict ys) :: (I, it (i + 1)) :: F)) (s := { s with heap := h₅, toks := t₅ }) S₆ fun V v H₄ h₆ t₆ iv qq S₇ => ?_
        obtain ⟨H', sub, q⟩ := qq
        have S₈ := sub _ _ _ S₇
        obtain ⟨kvs, DD, p⟩ := S₈.dict (l := D) (es := ys) (by simp)
        refine wpAny_dictSet_pairs (skind_is C y _) DD (fun h₇ D' hs => ?_) (by rw [p.length]; exact Nat.le_trans (Nat.le_trans hy (Nat.le_trans (Nat.le_of_lt hi) hsz)) (by decide))
        obtain ⟨o', ho', hd'⟩ := Heap.dictOf_iff.mp D'
        refine ⟨n - 1, by omega, (hP _ _).mpr (fun _ kk => kk (i + 1) (dset ys y v) H' h₇ _ rfl (by omega) ?_ q ?_)⟩
        · unfold dset; split <;> simp <;> omega
        · exact Sat.set (pre := (cenv.locals, .ns mc) :: H') S₈ (fun b o q e => (hs.2 b q).trans e) ho' ⟨_, hd', p.set iv⟩
    · have hi' : i = xs.length := by lia
      subst hi'
      refine W.done _ (hneed _ _ _ hJ) ((D, .dict ys) :: F) { s with heap := h, toks := tk } _ _ S' fun r H' h₁ t₁ ⟨e1, e2⟩ S₁ => ?_
      subst e1; subst e2
      exact k ys H h₁ t₁ hJ S₁
  refine codeAny_compStart_dict (loop s ⟨s.heap, s.toks, rfl, S⟩) ?_
  exact W.self 0 _ ((D, .dict []) :: F) s _ _ (S.of_perm perm3.symm) fun x H' h₁ t₁ ⟨e1, e2⟩ S₁ => by
    subst e1; subst e2
    exact loop _ ⟨h₁, t₁, rfl, S₁.of_perm (perm3 (X := (cenv.locals, .ns mc) :: H) (d := (D, .dict [])) (i := (I, it 0)) (F := F))⟩
end

noncomputable def relab : Str × NameKind → Str × NameKind
  | (n, .free) => (n, .cell)
  | p => p

structure CompSt (scope : Scope) (names : List (Str × NameKind)) (cells : List (Str × Addr)) (snames names' : List (Str × NameKind)) (cls : List (Str × Addr)) (locs : List Str) : Prop where
  kind : scope.kind = .function
  sn : scope.names = snames
  nm : snames.map relab = names'
  nd : (snames.map (·.1)).Nodup
  nodebug : ∀ p ∈ snames, p.2 ≠ .globalImplicit → p.1 ≠ "__debug__"
  fr : ∀ p ∈ snames, p.2 = .free → At names p.1 .cell ∧ ∃ c, At cells p.1 c
  cls_ : ∀ p ∈ cls, At cells p.1 p.2 ∧ (p.1, NameKind.free) ∈ snames
  locs_ : locs.Nodup

section
variable {C : Cx} {A : Around} {env cenv : Env} {names snames names' : List (Str × NameKind)} {cells cls : List (Str × Addr)} {m mc : Loc} {H : HS} {scope : Scope} {locs : List Str}

noncomputable def clf (env : Env) (snames : List (Str × NameKind)) : List (Str × Addr) := snames.filterMap fun p => if p.2 = .free then some (p.1, (env.cells.lookup p.1).getD 0) else none
theorem closureFor_is (E : EnvOk env names cells) : ∀ (l : List (Str × NameKind)) (acc : List (Str × Addr)), (∀ p ∈ l, p.2 = .free → ∃ c, At cells p.1 c) →
    (forIn l acc fun x (r : List (Str × Addr)) => match x with
      | (name, kind) => if (kind == NameKind.free) = true then do
          let a ← cellOf env name
          Pure.pure (ForInStep.yield ((name, a) :: r))
        else Pure.pure (ForInStep.yield r) : Sem (List (Str × Addr))) = Pure.pure ((clf env l).reverse ++ acc)
  | [], acc, _ => rfl
  | (n, kd) :: l, acc, h => by
    rw [List.forIn_cons]
    by_cases hk : kd = .free
    · subst hk
      obtain ⟨c, hc⟩ := h (n, .free) (.head _) rfl
      have e : env.cells.lookup n = some c := E.cells_ _ _ hc
      have e' : cellOf env n = (Pure.pure c : Sem Addr) := by unfold cellOf; rw [e]
      simp only [beq_self_eq_true, if_true, e', pure_bind]
      rw [closureFor_is E l _ fun p hp => h p (.tail _ hp)]
      have e2 : clf env ((n, NameKind.free) :: l) = (n, c) :: clf env l := by simp [clf, e]
      rw [e2]; simp
    · have hk' : (kd == NameKind.free) = false := by simpa using hk
      simp only [hk', Bool.false_eq_true, if_false, pure_bind]
      rw [closureFor_is E l _ fun p hp => h p (.tail _ hp)]
      have e2 : clf env ((n, kd) :: l) = clf env l := by simp [clf, hk]
      rw [e2]
theorem closureFor_eq (E : EnvOk env names cells) (S : CompSt scope names cells snames names' cls locs) : closureFor scope env = Pure.pure (clf env snames).reverse := by
  unfold closureFor
  rw [S.sn]
  have := closureFor_is E snames [] fun p hp hf => (S.fr p hp hf).2
  rw [List.append_nil] at this
  exact congrArg (fun t : Sem (List (Str × Addr)) => t >>= fun r => Pure.pure r) this
theorem clf_keys {l : List (Str × NameKind)} : ((clf env l).map (·.1)).Sublist (l.map (·.1)) := by
  induction l with
  | nil => exact .slnil
  | cons p l ih =>
    by_cases h : p.2 = .free
    · have : clf env (p :: l) = (p.1, (env.cells.lookup p.1).getD 0) :: clf env l := by simp [clf, h]
      rw [this]; exact ih.cons_cons _
    · have : clf env (p :: l) = clf env l := by simp [clf, h]
      rw [this]; exact ih.cons _
theorem relabel_names (E : EnvOk env names cells) (S : CompSt scope names cells snames names' cls locs) : (relabel scope env).names = names' := by
  rw [← S.nm]
  unfold relabel
  rw [S.sn]
  refine List.map_congr_left fun p hp => ?_
  obtain ⟨n, k⟩ := p
  cases k <;> try rfl
  have h1 := E.kindOf (S.fr (n, .free) hp rfl).1
  simp [relab, E.kind, h1]

theorem compEnvOk (E : EnvOk env names cells) (S : CompSt scope names cells snames names' cls locs) {L : Addr} {cs : List Addr} (hc : cs.length = (cellNames snames).length) (hkc : ∀ p ∈ snames, p.2 = .cell → True) :
    EnvOk { newEnv scope L env.globals (((cellNames scope.names).zip cs).reverse ++ (clf env snames).reverse) env.qual none .none (some env) builtinsNs with scope := relabel scope env } names' ((cellNames snames).zip cs ++ cls) where
  kind := by show (relabel scope env).kind = .function; exact S.kind
  names_ := relabel_names E S
  nd := by
    rw [← S.nm, List.map_map]
    have : ((fun x : Str × NameKind => x.1) ∘ relab) = fun x => x.1 := by funext ⟨n, k⟩; cases k <;> rfl
    rw [this]; exact S.nd
  nodebug := fun p hp => by
    rw [← S.nm] at hp
    obtain ⟨⟨n, k⟩, hq, rfl⟩ := List.mem_map.mp hp
    have := S.nodebug _ hq
    cases k <;> first | exact this | exact fun _ => this (by nofun)
  globals := E.globals
  builtins := E.builtins
  cells_ := fun x c hx => by
    show (((cellNames scope.names).zip cs).reverse ++ (clf env snames).reverse).lookup x = some c
    rw [S.sn]
    have ek : ((cellNames snames).zip cs).map (·.1) = cellNames snames := List.map_fst_zip (Nat.le_of_eq hc.symm)
    have ndc : (((cellNames snames).zip cs).map (·.1)).Nodup := by rw [ek]; exact S.nd.sublist (List.Sublist.map _ List.filter_sublist)
    have ndf : ((clf env snames).map (·.1)).Nodup := S.nd.sublist clf_keys
    rw [List.lookup_append, lookup_rev ndc, lookup_rev ndf]
    rcases List.mem_append.mp hx.mem with q | q
    · rw [lookup_mem ndc q]; rfl
    · obtain ⟨h1, h2⟩ := S.cls_ _ q
      have : ((cellNames snames).zip cs).lookup x = none := by
        rw [List.lookup_eq_none_iff]
        intro p hp
        refine bne_iff_ne.mpr fun e => ?_
        have h3 : p.1 ∈ cellNames snames := ek ▸ List.mem_map_of_mem hp
        obtain ⟨r, hr, e'⟩ := List.mem_map.mp h3
        obtain ⟨hr1, hr2⟩ := List.mem_filter.mp hr
        obtain ⟨rn, rk⟩ := r
        have ek2 : rk = .cell := by simpa using hr2
        subst ek2
        have l1 := lookup_mem S.nd hr1
        have l2 := lookup_mem S.nd h2
        have e3 : rn = x := e'.trans e.symm
        rw [e3, l2] at l1; cases l1
      rw [this, Option.none_or]
      refine lookup_mem ndf ?_
      refine List.mem_filterMap.mpr ⟨(x, .free), h2, ?_⟩
      simp [E.cells_ _ _ h1]

/- the setting of a comprehension, its list or dict and its iterator made -/
theorem comp_set {e : Expr} {g : Comprehension} {gs : List Comprehension} {pos : Pos} {newAcc : Sem Value} {acc : AO} {use : Option (Value → Sem Unit)} {iter : Expr}
    (E : EnvOk env names cells) (S : CompSt scope names cells snames names' cls locs)
    (hcl : clausesOf e = g :: gs) (hs : ∀ x, foldedSetIterable g.iter env x = pure x)
    (hacc : ∀ H, Tr C A newAcc H fun V H' => ∃ D, V = .ref D ∧ H' = (D, acc) :: H)
    {F : HS} {s : Shared} {Q : Value → Shared → Prop} {E' : Value → Shared → Prop} (Sa : Sat C (((env.locals, .ns m) :: H) ++ F) s.heap)
    (h : EV C A iter env m H fun v H₁ => ∃ it : Nat → AO, ∃ V0 : Prop, (∀ V, Is v V → Tr C A (pyIter V) ((env.locals, .ns m) :: H₁) fun x H' => ∃ I, x = .ref I ∧ H' = (I, it 0) :: (env.locals, .ns m) :: H₁) ∧
      ∀ (cenv : Env) (cs : List Addr) (I D : Addr) (h' : Heap) (tk' : Nat), cs.length = (cellNames snames).length → EnvOk cenv names' ((cellNames snames).zip cs ++ cls) →
        Sat C (((cenv.locals, .ns (locs.map fun x => (x, .undef))) :: (newCells cs ++ H₁)) ++ (D, acc) :: (I, it 0) :: (env.locals, .ns m) :: F) h' →
        codeAny C.M A (.compStart e 0 (.ref I) (.ref D) cenv) (compPost C.M A E' use Q (.ref D) cenv.locals) { s with heap := h', toks := tk' }) :
    wpAny C.M A (comprehension e scope env pos newAcc false (eval iter env) use) Q E' s := by
  refine wpAny_comprehension_free hcl hs (closureFor_eq E S) S.kind (fun x hx hl => ?_) ?_
  · rw [S.sn] at hx ⊢
    obtain ⟨n, k⟩ := x
    have hl' : k = .local := hl
    subst hl'
    exact lookup_mem S.nd hx
  refine TV.go h Sa fun V v H₁ h₁ t₁ iv qq S₁ => ?_
  obtain ⟨it, _, st, k⟩ := qq
  refine st V iv F { s with heap := h₁, toks := t₁ } _ E' S₁ fun x H' h₂ t₂ ⟨I, e1, e2⟩ S₂ => ?_
  subst e1; subst e2
  refine hacc _ F { s with heap := h₂, toks := t₂ } _ E' S₂ fun x H' h₃ t₃ ⟨D, e1, e2⟩ S₃ => ?_
  subst e1; subst e2
  refine Tr.newEnv (locs := locs) S.locs_ (H := (D, acc) :: (I, it 0) :: (env.locals, .ns m) :: H₁)
    (Q := fun cenv H' => ∃ L' cs, cs.length = (cellNames snames).length ∧ cenv = newEnv scope L' env.globals (((cellNames scope.names).zip cs).reverse ++ (clf env snames).reverse) env.qual none .none (some env) builtinsNs ∧
      H' = (L', .ns (locs.map fun x => (x, .undef))) :: newCells cs ++ (D, acc) :: (I, it 0) :: (env.locals, .ns m) :: H₁) (fun L' cs hc => ?_) F { s with heap := h₃, toks := t₃ } _ E' S₃ fun cenv H' h₄ t₄ ⟨L', cs, hc, e1, e2⟩ S₄ => ?_
  · exact ⟨L', cs, by rw [S.sn] at hc; exact hc, rfl, rfl⟩
  · subst e1; subst e2
    refine k { newEnv scope L' env.globals (((cellNames scope.names).zip cs).reverse ++ (clf env snames).reverse) env.qual none .none (some env) builtinsNs with scope := relabel scope env } cs I D h₄ t₄ hc (compEnvOk E S hc fun _ _ _ => trivial) ?_
    refine S₄.of_perm ?_
    show (((L', AO.ns (locs.map fun x => (x, .undef))) :: (newCells cs ++ H₁)) ++ (D, acc) :: (I, it 0) :: (env.locals, .ns m) :: F).Perm (((L', AO.ns (locs.map fun x => (x, .undef))) :: newCells cs ++ (D, acc) :: (I, it 0) :: (env.locals, .ns m) :: H₁) ++ F)
    simp only [List.cons_append, List.append_assoc]
    refine List.Perm.cons _ (List.Perm.append_left _ ?_)
    have : ∀ (X : HS) (a b c : Addr × AO), (X ++ a :: b :: c :: F).Perm (a :: b :: c :: (X ++ F)) := fun X a b c => by
      refine List.perm_middle.trans (List.Perm.cons _ (List.perm_middle.trans (List.Perm.cons _ List.perm_middle)))
    exact this _ _ _ _
end

section
variable {C : Cx} {A : Around} {env cenv : Env} {names snames names' : List (Str × NameKind)} {cells cls : List (Str × Addr)} {m mc : Loc} {H : HS} {scope : Scope} {locs : List Str}

theorem newList_Tr (H : HS) : Tr C A (newList []) H fun V H' => ∃ D, V = .ref D ∧ H' = (D, .list []) :: H :=
  fun F s Qc E S k => wpAny_newObj_type (k _ _ _ s.toks ⟨_, rfl, rfl⟩ (S.push ⟨#[], 0, rfl, trivial⟩)) (by show (0 : Nat) ≤ sizeLine; decide)
theorem newDict_Tr (H : HS) : Tr C A newDict H fun V H' => ∃ D, V = .ref D ∧ H' = (D, .dict []) :: H :=
  fun F s Qc E S k => wpAny_newObj_type (k _ _ _ s.toks ⟨_, rfl, rfl⟩ (S.push ⟨[], ⟨#[], 0, ⟨rfl, rfl, rfl⟩, rfl, (fun e he => by simp at he), .nil, .nil⟩, trivial⟩)) (by size_fits)

/- what a list comprehension does from its iterable on -/
noncomputable def LCQ (C : Cx) (A : Around) (target elt : Expr) (ifs : List Expr) (env : Env) (names' snames : List (Str × NameKind)) (cls : List (Str × Addr)) (locs : List Str) (m : Loc) (v : AV) (H₁ : HS) (Q : AV → HS → Prop) : Prop :=
  ∃ (xs : List AV) (need : HS → Prop), ITERS C A v xs need ((env.locals, .ns m) :: H₁) ∧ xs.length ≤ 1000 ∧
    ∀ (cenv : Env) (cs : List Addr), cs.length = (cellNames snames).length → EnvOk cenv names' ((cellNames snames).zip cs ++ cls) →
      ∃ J : Nat → List AV → HS → Prop, J 0 [] (newCells cs ++ H₁) ∧ (∀ i ys H, J i ys H → need ((cenv.locals, .ns (locs.map fun x => (x, .undef))) :: H)) ∧
        (∀ i x ys H, xs[i]? = some x → J i ys H → ASG C A target x cenv (locs.map fun x => (x, .undef)) H fun m₁ H₁ => IFS C A cenv ifs m₁ H₁ fun ok H₂ =>
          if ok = true then EV C A elt cenv m₁ H₂ fun y H₃ => ∃ H', Sub ((cenv.locals, .ns (locs.map fun x => (x, .undef))) :: H') ((cenv.locals, .ns m₁) :: H₃) ∧ J (i + 1) (ys ++ [y]) H'
          else ∃ H', Sub ((cenv.locals, .ns (locs.map fun x => (x, .undef))) :: H') ((cenv.locals, .ns m₁) :: H₂) ∧ J (i + 1) ys H') ∧
        (∀ ys H', J xs.length ys H' → ∀ a, ∃ H'', Sub H'' ((a, .list ys) :: H') ∧ Q (.ref a) H'')
noncomputable def DCQ (C : Cx) (A : Around) (target kx vx : Expr) (ifs : List Expr) (env : Env) (names' snames : List (Str × NameKind)) (cls : List (Str × Addr)) (locs : List Str) (m : Loc) (v : AV) (H₁ : HS) (Q : AV → HS → Prop) : Prop :=
  ∃ (xs : List AV) (need : HS → Prop), ITERS C A v xs need ((env.locals, .ns m) :: H₁) ∧ xs.length ≤ 1000 ∧
    ∀ (cenv : Env) (cs : List Addr), cs.length = (cellNames snames).length → EnvOk cenv names' ((cellNames snames).zip cs ++ cls) →
      ∃ J : Nat → List (Str × AV) → HS → Prop, J 0 [] (newCells cs ++ H₁) ∧ (∀ i ys H, J i ys H → need ((cenv.locals, .ns (locs.map fun x => (x, .undef))) :: H)) ∧
        (∀ i x ys H, xs[i]? = some x → J i ys H → ASG C A target x cenv (locs.map fun x => (x, .undef)) H fun m₁ H₁ => IFS C A cenv ifs m₁ H₁ fun ok H₂ =>
          if ok = true then EV C A kx cenv m₁ H₂ fun kv H₃ => ∃ y, kv = .str y ∧ EV C A vx cenv m₁ H₃ fun v H₄ => ∃ H', Sub ((cenv.locals, .ns (locs.map fun x => (x, .undef))) :: H') ((cenv.locals, .ns m₁) :: H₄) ∧ J (i + 1) (dset ys y v) H'
          else ∃ H', Sub ((cenv.locals, .ns (locs.map fun x => (x, .undef))) :: H') ((cenv.locals, .ns m₁) :: H₂) ∧ J (i + 1) ys H') ∧
        (∀ ys H', J xs.length ys H' → ∀ a, ∃ H'', Sub H'' ((a, .dict ys) :: H') ∧ Q (.ref a) H'')

theorem fin_perm {F : HS} {H' : HS} {D L : Addr} {a : AO} {m : Loc} {h : Heap} (S : Sat C (H' ++ (D, a) :: (L, .ns m) :: F) h) : Sat C (((L, .ns m) :: (D, a) :: H') ++ F) h := by
  refine S.of_perm ?_
  show ((L, AO.ns m) :: (D, a) :: (H' ++ F)).Perm (H' ++ (D, a) :: (L, .ns m) :: F)
  exact ((List.perm_middle.trans (List.Perm.cons _ List.perm_middle)).trans (List.Perm.swap ..)).symm
theorem ns_of {h : Heap} {L : Addr} {m : Loc} {F : HS} (S : Sat C (((L, .ns m) :: H) ++ F) h) : ∃ f, h.Ns L f := let ⟨f, hf, _⟩ := S.ns (.head _); ⟨f, hf⟩

theorem EV.listComp {target elt iter : Expr} {ifs : List Expr} {pos : Pos} {Q : AV → HS → Prop} (E : EnvOk env names cells) (S : CompSt scope names cells snames names' cls locs)
    (h : EV C A iter env m H fun v H₁ => LCQ C A target elt ifs env names' snames cls locs m v H₁ Q) (hs : autoParam (∀ x, foldedSetIterable iter env x = pure x) aI) :
    EV C A (.ListComp elt [⟨target, iter, ifs, 0⟩] scope pos) env m H Q := by
  intro F s Qc E' Sa k
  rw [eval_ListComp]
  refine comp_set (e := .ListComp elt [⟨target, iter, ifs, 0⟩] scope pos) (acc := .list []) (use := Option.none) (g := ⟨target, iter, ifs, 0⟩) (gs := []) E S rfl hs newList_Tr Sa (TV.mono h fun v H₁ ⟨xs, need, ⟨it, W, st⟩, hsz, q⟩ => ⟨it, True, st, fun cenv cs I D h' tk' hc E₁ S₁ => ?_⟩)
  obtain ⟨J, j0, hneed, step, fin⟩ := q cenv cs hc E₁
  refine comp_list (s := { s with heap := h', toks := tk' }) (W I) J hneed step hsz j0 S₁ fun ys H' h₂ t₂ hJ S₂ => ?_
  obtain ⟨f, hf⟩ := ns_of S₂
  refine ⟨f, hf, fun h₃ hs₃ => ?_⟩
  obtain ⟨H'', sub, q'⟩ := fin ys H' hJ D
  have S₃ := fin_perm (Sat.tail S₂ hs₃.extBut)
  exact k _ _ _ _ ⟨_, H'', rfl, .ref _, q'⟩ (Sub.cons sub _ _ _ S₃)
theorem EV.dictComp {target kx vx iter : Expr} {ifs : List Expr} {pos : Pos} {Q : AV → HS → Prop} (E : EnvOk env names cells) (S : CompSt scope names cells snames names' cls locs)
    (h : EV C A iter env m H fun v H₁ => DCQ C A target kx vx ifs env names' snames cls locs m v H₁ Q) (hs : autoParam (∀ x, foldedSetIterable iter env x = pure x) aI) :
    EV C A (.DictComp kx vx [⟨target, iter, ifs, 0⟩] scope pos) env m H Q := by
  intro F s Qc E' Sa k
  show wpAny _ A (comprehension (.DictComp kx vx [⟨target, iter, ifs, 0⟩] scope pos) scope env _ newDict false (eval iter env)) _ _ _
  refine comp_set (e := .DictComp kx vx [⟨target, iter, ifs, 0⟩] scope pos) (acc := .dict []) (use := Option.none) (g := ⟨target, iter, ifs, 0⟩) (gs := []) E S rfl hs newDict_Tr Sa (TV.mono h fun v H₁ ⟨xs, need, ⟨it, W, st⟩, hsz, q⟩ => ⟨it, True, st, fun cenv cs I D h' tk' hc E₁ S₁ => ?_⟩)
  obtain ⟨J, j0, hneed, step, fin⟩ := q cenv cs hc E₁
  refine comp_dict (s := { s with heap := h', toks := tk' }) (W I) J hneed step hsz j0 S₁ fun ys H' h₂ t₂ hJ S₂ => ?_
  obtain ⟨f, hf⟩ := ns_of S₂
  refine ⟨f, hf, fun h₃ hs₃ => ?_⟩
  obtain ⟨H'', sub, q'⟩ := fin ys H' hJ D
  have S₃ := fin_perm (Sat.tail S₂ hs₃.extBut)
  exact k _ _ _ _ ⟨_, H'', rfl, .ref _, q'⟩ (Sub.cons sub _ _ _ S₃)

theorem swaps_list {elt : Expr} {gens : List Comprehension} {y : Str} {py pos : Pos} {line : Nat} (E : EnvOk env names cells) (hy : At names y .local) (hl : (py.line == pos.line) = true) (hn : (scope.names.any fun x => x.1 == y && (x.2 == .local || x.2 == .cell)) = false) :
    swapsWith (.ListComp elt gens scope pos) (some (.Name y py)) line env = pure true := by
  unfold swapsWith
  have h1 : env.kindOf y = some .local := E.kindOf hy
  show (pure _ : Sem Bool) = _
  rw [E.block, h1]
  show (pure (true && true && (py.line == pos.line) && !(scope.names.any fun x => x.1 == y && (x.2 == .local || x.2 == .cell))) : Sem Bool) = _
  rw [hl, hn]; rfl
theorem swaps_dict {kx vx : Expr} {gens : List Comprehension} {y : Str} {py pos : Pos} {line : Nat} (E : EnvOk env names cells) (hy : At names y .local) (hl : (py.line == pos.line) = true) (hn : (scope.names.any fun x => x.1 == y && (x.2 == .local || x.2 == .cell)) = false) :
    swapsWith (.DictComp kx vx gens scope pos) (some (.Name y py)) line env = pure true := by
  unfold swapsWith
  have h1 : env.kindOf y = some .local := E.kindOf hy
  show (pure _ : Sem Bool) = _
  rw [E.block, h1]
  show (pure (true && true && (py.line == pos.line) && !(scope.names.any fun x => x.1 == y && (x.2 == .local || x.2 == .cell))) : Sem Bool) = _
  rw [hl, hn]; rfl

theorem ES.assignListComp {target elt iter : Expr} {ifs : List Expr} {pos py spos : Pos} {y : Str} {Q : FL → Loc → HS → Prop} (E : EnvOk env names cells) (S : CompSt scope names cells snames names' cls locs) (hy : At names y .local)
    (hl : (py.line == pos.line) = true) (hn : (scope.names.any fun x => x.1 == y && (x.2 == .local || x.2 == .cell)) = false)
    (h : EV C A iter env m H fun v H₁ => LCQ C A target elt ifs env names' snames cls locs m v H₁ fun r H₂ => ∃ m', Put m y r m' ∧ Q .next m' H₂) (hs : autoParam (∀ x, foldedSetIterable iter env x = pure x) aI) :
    ES C A (.Assign [.Name y py] (.ListComp elt [⟨target, iter, ifs, 0⟩] scope pos) spos) env m H Q := by
  intro F s Qc E' Sa k
  rw [exec_Assign_Name_used _ _ _ _ (swaps_list E hy hl hn)]
  refine wpAny_bind (wpAny_standAt (wpAny_bind ?_))
  show wpAny _ A (do let _ ← comprehension (.ListComp elt [⟨target, iter, ifs, 0⟩] scope pos) scope env _ (newList []) false (eval iter env) (some (PySem.assign (PySem.Expr.Name y py) env))) _ _ s
  refine wpAny_bind (wpAny_mono (comp_set (e := .ListComp elt [⟨target, iter, ifs, 0⟩] scope pos) (acc := .list []) (use := some (PySem.assign (PySem.Expr.Name y py) env)) (Q := fun _ s' => Qc .next s') (g := ⟨target, iter, ifs, 0⟩) (gs := []) E S rfl hs newList_Tr Sa (TV.mono h fun v H₁ ⟨xs, need, ⟨it, W, st⟩, hsz, q⟩ => ⟨it, True, st, fun cenv cs I D h' tk' hc E₁ S₁ => ?_⟩)) (fun _ s' hq => wpAny_pure (wpAny_pure hq)) fun _ _ e => e)
  obtain ⟨J, j0, hneed, step, fin⟩ := q cenv cs hc E₁
  refine comp_list (s := { s with heap := h', toks := tk' }) (W I) J hneed step hsz j0 S₁ fun ys H' h₂ t₂ hJ S₂ => ?_
  obtain ⟨H'', sub, m', hp, q'⟩ := fin ys H' hJ D
  show wpAny _ A (PySem.assign (PySem.Expr.Name y py) env (.ref D)) _ _ _
  have S₃ : Sat C (((env.locals, .ns m) :: (D, .list ys) :: H') ++ (cenv.locals, .ns (locs.map fun x => (x, .undef))) :: F) h₂ := by
    refine S₂.of_perm ?_
    show (((env.locals, AO.ns m) :: (D, .list ys) :: H') ++ (cenv.locals, .ns (locs.map fun x => (x, .undef))) :: F).Perm ((cenv.locals, .ns (locs.map fun x => (x, .undef))) :: (H' ++ (D, .list ys) :: (env.locals, .ns m) :: F))
    refine List.perm_middle.trans (List.Perm.cons _ ?_)
    show ((env.locals, AO.ns m) :: (D, .list ys) :: (H' ++ F)).Perm _
    exact ((List.perm_middle.trans (List.Perm.cons _ List.perm_middle)).trans (List.Perm.swap ..)).symm
  refine wpAny_assign_Name (store_loc (Q := fun _ H₅ => H₅ = (env.locals, .ns m') :: (D, .list ys) :: H') E hy hp (.ref D) rfl _ { s with heap := h₂, toks := t₂ } _ E' S₃ fun _ H₅ h₄ t₄ e S₄ => ?_)
  subst e
  have S₅ : Sat C ((cenv.locals, .ns (locs.map fun x => (x, .undef))) :: (((env.locals, .ns m') :: (D, .list ys) :: H') ++ F)) h₄ := S₄.of_perm List.perm_middle.symm
  obtain ⟨f, hf, _⟩ := S₅.ns (.head _)
  exact ⟨f, hf, fun h₆ hs₆ => k _ _ _ _ ⟨.next, m', H'', rfl, trivial, q'⟩ (Sub.cons sub _ _ _ (Sat.tail S₅ hs₆.extBut))⟩
theorem ES.assignDictComp {target kx vx iter : Expr} {ifs : List Expr} {pos py spos : Pos} {y : Str} {Q : FL → Loc → HS → Prop} (E : EnvOk env names cells) (S : CompSt scope names cells snames names' cls locs) (hy : At names y .local)
    (hl : (py.line == pos.line) = true) (hn : (scope.names.any fun x => x.1 == y && (x.2 == .local || x.2 == .cell)) = false)
    (h : EV C A iter env m H fun v H₁ => DCQ C A target kx vx ifs env names' snames cls locs m v H₁ fun r H₂ => ∃ m', Put m y r m' ∧ Q .next m' H₂) (hs : autoParam (∀ x, foldedSetIterable iter env x = pure x) aI) :
    ES C A (.Assign [.Name y py] (.DictComp kx vx [⟨target, iter, ifs, 0⟩] scope pos) spos) env m H Q := by
  intro F s Qc E' Sa k
  rw [exec_Assign_Name_used _ _ _ _ (swaps_dict E hy hl hn)]
  refine wpAny_bind (wpAny_standAt (wpAny_bind ?_))
  show wpAny _ A (do let _ ← comprehension (.DictComp kx vx [⟨target, iter, ifs, 0⟩] scope pos) scope env _ newDict false (eval iter env) (some (PySem.assign (PySem.Expr.Name y py) env))) _ _ s
  refine wpAny_bind (wpAny_mono (comp_set (e := .DictComp kx vx [⟨target, iter, ifs, 0⟩] scope pos) (acc := .dict []) (use := some (PySem.assign (PySem.Expr.Name y py) env)) (Q := fun _ s' => Qc .next s') (g := ⟨target, iter, ifs, 0⟩) (gs := []) E S rfl hs newDict_Tr Sa (TV.mono h fun v H₁ ⟨xs, need, ⟨it, W, st⟩, hsz, q⟩ => ⟨it, True, st, fun cenv cs I D h' tk' hc E₁ S₁ => ?_⟩)) (fun _ s' hq => wpAny_pure (wpAny_pure hq)) fun _ _ e => e)
  obtain ⟨J, j0, hneed, step, fin⟩ := q cenv cs hc E₁
  refine comp_dict (s := { s with heap := h', toks := tk' }) (W I) J hneed step hsz j0 S₁ fun ys H' h₂ t₂ hJ S₂ => ?_
  obtain ⟨H'', sub, m', hp, q'⟩ := fin ys H' hJ D
  show wpAny _ A (PySem.assign (PySem.Expr.Name y py) env (.ref D)) _ _ _
  have S₃ : Sat C (((env.locals, .ns m) :: (D, .dict ys) :: H') ++ (cenv.locals, .ns (locs.map fun x => (x, .undef))) :: F) h₂ := by
    refine S₂.of_perm ?_
    show (((env.locals, AO.ns m) :: (D, .dict ys) :: H') ++ (cenv.locals, .ns (locs.map fun x => (x, .undef))) :: F).Perm ((cenv.locals, .ns (locs.map fun x => (x, .undef))) :: (H' ++ (D, .dict ys) :: (env.locals, .ns m) :: F))
    refine List.perm_middle.trans (List.Perm.cons _ ?_)
    show ((env.locals, AO.ns m) :: (D, .dict ys) :: (H' ++ F)).Perm _
    exact ((List.perm_middle.trans (List.Perm.cons _ List.perm_middle)).trans (List.Perm.swap ..)).symm
  refine wpAny_assign_Name (store_loc (Q := fun _ H₅ => H₅ = (env.locals, .ns m') :: (D, .dict ys) :: H') E hy hp (.ref D) rfl _ { s with heap := h₂, toks := t₂ } _ E' S₃ fun _ H₅ h₄ t₄ e S₄ => ?_)
  subst e
  have S₅ : Sat C ((cenv.locals, .ns (locs.map fun x => (x, .undef))) :: (((env.locals, .ns m') :: (D, .dict ys) :: H') ++ F)) h₄ := S₄.of_perm List.perm_middle.symm
  obtain ⟨f, hf, _⟩ := S₅.ns (.head _)
  exact ⟨f, hf, fun h₆ hs₆ => k _ _ _ _ ⟨.next, m', H'', rfl, trivial, q'⟩ (Sub.cons sub _ _ _ (Sat.tail S₅ hs₆.extBut))⟩
end

/- an object of a list of objects is another one now -/
inductive Upd : HS → Addr → AO → AO → HS → Prop where
  | head {l x y r} : Upd ((l, x) :: r) l x y ((l, y) :: r)
  | tail {l x y p r r'} : Upd r l x y r' → Upd (p :: r) l x y (p :: r')
theorem Upd.split {H H' : HS} {l : Addr} {x y : AO} (h : Upd H l x y H') : ∃ pre post, H = pre ++ (l, x) :: post ∧ H' = pre ++ (l, y) :: post := by
  induction h with
  | head => exact ⟨[], _, rfl, rfl⟩
  | @tail l x y p r r' _ ih => obtain ⟨pre, post, rfl, rfl⟩ := ih; exact ⟨p :: pre, post, rfl, rfl⟩

section
variable {C : Cx} {A : Around} {env : Env} {names : List (Str × NameKind)} {cells : List (Str × Addr)} {L : Addr} {m : Loc} {H H' : HS} {Q : AV → HS → Prop}

theorem ST.list' {l : Addr} {xs ys : List AV} {i : Int} {v : AV} {Q : HS → Prop} (u : Upd H l (.list xs) (.list ys) H') (h0 : 0 ≤ i) (h1 : i < xs.length) (hb : i < 2 ^ 63) (e : ys = xs.set i.toNat v) (h : Q H') : ST C A (.ref l) (.int i) v L m H Q := by
  obtain ⟨pre, post, rfl, rfl⟩ := u.split; subst e; exact ST.list h0 h1 hb h
theorem ST.dict' {d : Addr} {es es' : List (Str × AV)} {x : Str} {v : AV} {Q : HS → Prop} (u : Upd H d (.dict es) (.dict es') H') (hsz : es.length ≤ 1000) (e : es' = dset es x v) (h : Q H') : ST C A (.ref d) (.str x) v L m H Q := by
  obtain ⟨pre, post, rfl, rfl⟩ := u.split; subst e; exact ST.dict hsz h
theorem ASG.cell' {x : Str} {p : Pos} {c : Addr} {v u : AV} {Q : Loc → HS → Prop} (E : EnvOk env names cells) (hn : At names x .cell) (hc : At cells x c) (hu : Upd H c (.cell u) (.cell v) H') (h : Q m H') : ASG C A (.Name x p) v env m H Q := by
  obtain ⟨pre, post, rfl, rfl⟩ := hu.split; exact ASG.cell E hn hc h
theorem STN.cell' {x : Str} {c : Addr} {v u : AV} {Q : Loc → HS → Prop} (E : EnvOk env names cells) (hn : At names x .cell) (hc : At cells x c) (hu : Upd H c (.cell u) (.cell v) H') (h : Q m H') : STN C A env x v m H Q := by
  obtain ⟨pre, post, rfl, rfl⟩ := hu.split; exact STN.cell E hn hc h
theorem ES.assignC' {x : Str} {c : Addr} {p' pos : Pos} {e : Expr} {Q : FL → Loc → HS → Prop} (E : EnvOk env names cells) (hn : At names x .cell) (hc : At cells x c)
    (h : EV C A e env m H fun v H₁ => ∃ u H₂, Upd H₁ c (.cell u) (.cell v) H₂ ∧ Q .next m H₂)
    (hs : autoParam (swapsWith e (some (.Name x p')) pos.line env = pure false) aRfl) : ES C A (.Assign [.Name x p'] e pos) env m H Q :=
  ES.assignC E hn hc (TV.mono h fun v H₁ ⟨u, H₂, hu, q⟩ => by obtain ⟨pre, post, e1, e2⟩ := hu.split; subst e2; exact ⟨pre, post, u, e1, q⟩) hs

theorem Sat.mut {h h' : Heap} {F : HS} {p : Addr × AO} {a : Addr} {ao ao' : AO} {o' : Obj} (S : Sat C ((p :: H) ++ F) h) (u : Upd H a ao ao' H') (hs : Heap.SameBut a h h') (ho : h'.get? a = some o') (hi : OIs C ao' o') : Sat C ((p :: H') ++ F) h' := by
  obtain ⟨pre, post, rfl, rfl⟩ := u.split; exact S.upd hs ho hi
theorem Upd.mem {l : Addr} {x y : AO} (u : Upd H l x y H') : (l, x) ∈ H := by
  obtain ⟨pre, post, rfl, rfl⟩ := u.split; simp
theorem Sat.grown {h h' : Heap} {F : HS} {p : Addr × AO} {a : Addr} {ao : AO} {o : Obj} (S : Sat C ((p :: H) ++ F) h) (hk : ∀ b x, h.get? b = some x → h'.get? b = some x) (hf : h.get? a = none) (ho : h'.get? a = some o) (hi : OIs C ao o) : Sat C ((p :: (a, ao) :: H) ++ F) h' := by
  have S' := S.grow hk
  refine Sat.of_perm (H := (a, ao) :: ((p :: H) ++ F)) ⟨S'.keep, ?_, fun q hq => ?_⟩ (List.Perm.swap ..)
  · rw [List.map_cons, List.nodup_cons]
    refine ⟨fun q => ?_, S'.nd⟩
    obtain ⟨r, hr, e⟩ := List.mem_map.mp q
    obtain ⟨_, o', e', _⟩ := S.at_ r hr
    have e : r.1 = a := e
    rw [e, hf] at e'; cases e'
  · rcases List.mem_cons.mp hq with rfl | hq
    · refine ⟨?_, o, ho, hi⟩
      cases z : C.h₀.get? a with
      | none => rfl
      | some o' => have z := S.keep _ _ z; rw [hf] at z; cases z
    · exact S'.at_ _ hq

/- calls by name -/
theorem EV.callB {f : Str} {p pos : Pos} {e : Expr} {rest : List Expr} (h : EV C A (.Name f p) env m H (kCallB C A pos (e :: rest) env m Q))
    (he : autoParam (starEach (e :: rest) env = (false, eval e env) :: starEach rest env) aRfl) (hplain : autoParam ((backTo pos (starEach rest env)).any (·.1) = false) aRfl) : EV C A (.Call (.Name f p) (e :: rest) [] pos) env m H Q :=
  fun F s _ E S k => wpAny_Call_NameR (TV.go h S fun fV fv H₁ h₁ t₁ i qq S₁ => by
    obtain ⟨id, e2, q⟩ := qq; subst e2; obtain ⟨_, rfl⟩ := i.inv
    exact PyProof.Rows.callWith_builtin1 (TL.go q S₁ fun Vs as H₂ h₂ t₂ j q' S₂ => by
      exact q' Vs j F { s with heap := h₂, toks := t₂ } _ E S₂ k) he hplain)
theorem EV.callT {f : Str} {p pos : Pos} {e : Expr} {rest : List Expr} (h : EV C A (.Name f p) env m H (kCallT C A pos (e :: rest) env m Q))
    (he : autoParam (starEach (e :: rest) env = (false, eval e env) :: starEach rest env) aRfl) (hplain : autoParam ((backTo pos (starEach rest env)).any (·.1) = false) aRfl) : EV C A (.Call (.Name f p) (e :: rest) [] pos) env m H Q :=
  fun F s _ E S k => wpAny_Call_NameR (TV.go h S fun fV fv H₁ h₁ t₁ i qq S₁ => by
    obtain ⟨id, e2, q⟩ := qq; subst e2; obtain ⟨_, rfl⟩ := i.inv
    exact PyProof.Rows.callWith_type1 (TL.go q S₁ fun Vs as H₂ h₂ t₂ j q' S₂ => by
      exact q' Vs j F { s with heap := h₂, toks := t₂ } _ E S₂ k) he hplain)
/- a def's object stands there -/
noncomputable def DefAt (C : Cx) (H : HS) (a : Addr) (o : Obj) : Prop := ∀ F h, Sat C (H ++ F) h → h.get? a = some o
theorem EV.callF {f : Str} {p pos : Pos} {e : Expr} {rest : List Expr} (h : EV C A (.Name f p) env m H fun fv H₁ => ∃ a o fd, fv = .ref a ∧ o.data = .func fd ∧ EL C A pos (e :: rest) env m H₁ fun as H₂ => DefAt C ((env.locals, .ns m) :: H₂) a o ∧ OPL C A (fun Vs => call (.ref a) Vs) as env.locals m H₂ Q)
    (he : autoParam (starEach (e :: rest) env = (false, eval e env) :: starEach rest env) aRfl) : EV C A (.Call (.Name f p) (e :: rest) [] pos) env m H Q := by
  intro F s Qc E S k
  refine wpAny_Call_NameR (TV.go h S fun fV fv H₁ h₁ t₁ i qq S₁ => ?_)
  obtain ⟨a, o, fd, e2, hd, q⟩ := qq
  subst e2; obtain ⟨_, rfl⟩ := i.inv
  have q0 : TL C A (spliced (backTo pos (starEach (e :: rest) env))) env.locals m H₁ fun as H₂ => DefAt C ((env.locals, .ns m) :: H₂) a o ∧ OPL C A (fun Vs => call (.ref a) Vs) as env.locals m H₂ Q := q
  rw [he] at q0 ⊢
  refine Calls.callWith_function (o := o) (fd := fd) (Calls.evalArgs_plain ?_)
  refine TL.go q0 S₁ fun Vs as H₂ h₂ t₂ j qq S₂ => ?_
  obtain ⟨ho, q'⟩ := qq
  exact ⟨⟨ho _ _ S₂, hd⟩, q' Vs j F { s with heap := h₂, toks := t₂ } _ E S₂ k⟩

/- methods of built-in types -/
inductive TyIs (H : HS) : AV → String → Prop where
  | str {x} : TyIs H (.str x) "str"
  | int {x} : TyIs H (.int x) "int"
  | list {l xs} : (l, AO.list xs) ∈ H → TyIs H (.ref l) "list"
theorem TyIs.typeIs {H F : HS} {s : Shared} {a : AV} {T : String} {V : Value} (h : TyIs H a T) (i : Is a V) (S : Sat C (H ++ F) s.heap) : s.TypeIs V T ∧ ∀ b, V = .ref b → ∃ o, s.heap.get? b = some o ∧ o.dict = none := by
  cases h with
  | str => obtain ⟨_, rfl⟩ := i.inv; exact ⟨typeIs_str s _ _, fun b e => nomatch e⟩
  | int => obtain ⟨_, rfl⟩ := i.inv; exact ⟨typeIs_int s _ _, fun b e => nomatch e⟩
  | list hm =>
    obtain ⟨_, rfl⟩ := i.inv
    obtain ⟨vs, n, e, r⟩ := S.list (List.mem_append_left F hm)
    exact ⟨(isList_of e).typeIs, fun b q => by cases q; exact ⟨_, e, rfl⟩⟩
theorem EV.meth {o : Expr} {name : Str} {apos pos : Pos} {e : Expr} {rest : List Expr} {pl : Sem Bool} (T id : String) (pa : PlainAttrs T) (slot : Slot T name id) (hty : typeOf (.builtin id) = pure (.type "method_descriptor"))
    (h : EV C A o env m H fun a H₁ => TyIs H₁ a T ∧ EL C A pos (e :: rest) env m H₁ fun as H₂ => OPL C A (fun Vs => call (.builtin id) Vs) (a :: as) env.locals m H₂ Q)
    (hm : autoParam (eval (.Call (.Attribute o name apos) (e :: rest) [] pos) env = (do let ov ← eval o env; standAt apos.atName; let (f, first) ← holding [ov] (getMethod ov name pl); callWith pos f first (backTo pos (starEach (e :: rest) env)) [])) aRfl)
    (he : autoParam (starEach (e :: rest) env = (false, eval e env) :: starEach rest env) aRfl) (hplain : autoParam ((backTo pos (starEach rest env)).any (·.1) = false) aRfl) : EV C A (.Call (.Attribute o name apos) (e :: rest) [] pos) env m H Q := by
  intro F s Qc E S k
  refine MethodCall_ (TV.go h S fun oV a H₁ h₁ t₁ i qq S₁ => ?_) hm
  obtain ⟨ty, q⟩ := qq
  have ty' : TyIs ((env.locals, .ns m) :: H₁) a T := by cases ty with | str => exact .str | int => exact .int | list hq => exact .list (.tail _ hq)
  obtain ⟨t1, t2⟩ := ty'.typeIs (s := { s with heap := h₁, toks := t₁ }) i S₁
  refine getMethod_builtin t1 pa slot hty t2 (PyProof.Rows.callWith_method1 (first := [oV]) (TL.go q S₁ fun Vs as H₂ h₂ t₂ j q' S₂ => ?_) he hplain)
  exact q' (oV :: Vs) ⟨i, j⟩ F { s with heap := h₂, toks := t₂ } _ E S₂ k
theorem EV.meth0 {o : Expr} {name : Str} {apos pos : Pos} {pl : Sem Bool} (T id : String) (pa : PlainAttrs T) (slot : Slot T name id) (hty : typeOf (.builtin id) = pure (.type "method_descriptor"))
    (h : EV C A o env m H fun a H₁ => TyIs H₁ a T ∧ OPL C A (fun Vs => call (.builtin id) Vs) [a] env.locals m H₁ Q)
    (hm : autoParam (eval (.Call (.Attribute o name apos) [] [] pos) env = (do let ov ← eval o env; standAt apos.atName; let (f, first) ← holding [ov] (getMethod ov name pl); callWith pos f first (backTo pos (starEach [] env)) [])) aRfl) :
    EV C A (.Call (.Attribute o name apos) [] [] pos) env m H Q := by
  intro F s Qc E S k
  refine MethodCall_ (TV.go h S fun oV a H₁ h₁ t₁ i qq S₁ => ?_) hm
  obtain ⟨ty, q⟩ := qq
  have ty' : TyIs ((env.locals, .ns m) :: H₁) a T := by cases ty with | str => exact .str | int => exact .int | list hq => exact .list (.tail _ hq)
  obtain ⟨t1, t2⟩ := ty'.typeIs (s := { s with heap := h₁, toks := t₁ }) i S₁
  exact getMethod_builtin t1 pa slot hty t2 (PyProof.Rows.callWith_method0 (first := [oV]) (q [oV] ⟨i, trivial⟩ F { s with heap := h₁, toks := t₁ } _ E S₁ k))
end

section
variable {C : Cx} {A : Around} {env : Env} {L : Addr} {m : Loc} {H H' : HS} {Q : AV → HS → Prop}

theorem OPL.one {f : List Value → Sem Value} {a : AV} (h : ∀ V, Is a V → TV C A (f [V]) L m H Q) : OPL C A f [a] L m H Q := by
  intro Vs hV
  rcases Vs with _ | ⟨V, _ | ⟨W, X⟩⟩
  · exact hV.elim
  · exact h V hV.1
  · exact hV.2.elim
theorem OPL.two {f : List Value → Sem Value} {a b : AV} (h : ∀ V W, Is a V → Is b W → TV C A (f [V, W]) L m H Q) : OPL C A f [a, b] L m H Q := by
  intro Vs hV
  rcases Vs with _ | ⟨V, _ | ⟨W, _ | ⟨X, Y⟩⟩⟩
  · exact hV.elim
  · exact hV.2.elim
  · exact h V W hV.1 hV.2.1
  · exact hV.2.2.elim
theorem OPL.three {f : List Value → Sem Value} {a b c : AV} (h : ∀ V W X, Is a V → Is b W → Is c X → TV C A (f [V, W, X]) L m H Q) : OPL C A f [a, b, c] L m H Q := by
  intro Vs hV
  rcases Vs with _ | ⟨V, _ | ⟨W, _ | ⟨X, _ | ⟨Y, Z⟩⟩⟩⟩
  · exact hV.elim
  · exact hV.2.elim
  · exact hV.2.2.elim
  · exact h V W X hV.1 hV.2.1 hV.2.2.1
  · exact hV.2.2.2.elim

theorem intsAre : ∀ {ns : List Int} {vs : List Value}, All2 (ns.map .int) vs → IntsAre vs ns
  | [], [], _ => .nil
  | n :: ns, v :: vs, h => by
    obtain ⟨i, r⟩ := h; obtain ⟨_, rfl⟩ := i.inv; exact .cons _ _ (intsAre r)
theorem ofIntsAre : ∀ {ns : List Int} {vs : List Value}, IntsAre vs ns → All2 (ns.map .int) vs
  | _, _, .nil => trivial
  | _, _, .cons n t r => ⟨.int n t, ofIntsAre r⟩
theorem strsAre : ∀ {ns : List Str} {vs : List Value}, All2 (ns.map .str) vs → StrsAre vs ns
  | [], [], _ => .nil
  | n :: ns, v :: vs, h => by
    obtain ⟨i, r⟩ := h; obtain ⟨_, rfl⟩ := i.inv; exact .cons _ _ (strsAre r)

/- lists -/
theorem CB.append {l : Addr} {xs : List AV} {x : AV} (u : Upd H l (.list xs) (.list (xs ++ [x])) H') (hsz : xs.length ≤ 1000) (h : Q .none H') : OPL C A (fun Vs => call (.builtin "list.append") Vs) [.ref l, x] L m H Q :=
  .two fun V W i j F s Qc E S k => by
    obtain ⟨_, rfl⟩ := i.inv
    obtain ⟨vs, n, e, r⟩ := S.list (List.mem_append_left F (.tail _ u.mem))
    have hlen : vs.size = xs.length := by rw [← r.length]; simp
    refine wpAny_list_append_plain ⟨n, e⟩ (fun h' hp hs => ?_) (by rw [hlen]; exact Nat.le_trans hsz (by decide))
    obtain ⟨n', e'⟩ := hp
    exact k _ _ _ s.toks ⟨_, H', rfl, .none, h⟩ (S.mut u hs e' ⟨_, _, rfl, by rw [Array.toList_push]; exact r.append ⟨j, trivial⟩⟩)
theorem All2.erase : ∀ {as : List AV} {vs : List Value}, All2 as vs → ∀ k, All2 (as.eraseIdx k) (vs.eraseIdx k)
  | [], [], _, _ => trivial
  | _ :: _, _ :: _, h, 0 => h.2
  | _ :: _, _ :: _, h, k + 1 => ⟨h.1, All2.erase h.2 k⟩
theorem CB.popAt {l : Addr} {xs : List AV} {i : Int} {x : AV} {j : Nat} (u : Upd H l (.list xs) (.list (xs.eraseIdx j)) H') (hsz : xs.length ≤ 1000) (hi : 0 ≤ i ∧ i < 2 ^ 63) (hj : seqIndex? i xs.length = some j) (hx : xs[j]? = some x) (h : Q x H') :
    OPL C A (fun Vs => call (.builtin "list.pop") Vs) [.ref l, .int i] L m H Q :=
  .two fun V W i' j' F s Qc E S k => by
    obtain ⟨_, rfl⟩ := i'.inv; cases j'
    obtain ⟨vs, n, e, r⟩ := S.list (List.mem_append_left F (.tail _ u.mem))
    have hlen : vs.size = xs.length := by rw [← r.length]; simp
    obtain ⟨v, hv, iv⟩ := r.get hx
    have hv' : vs[j]? = some v := by simpa using hv
    refine call_meets PySem.F.slot_list_pop ⟨_, e, rfl⟩ PySem.F.entry_list_pop (PySem.F.args_list_pop_2 _ _) (MeetsSeq.list_pop_at l vs n i _ j v ?_ (by rw [hlen]; exact hj) hv' (by rw [hlen]; exact Nat.le_trans hsz (by decide))) ⟨e, ?_⟩
    · simp only [Builtin.List.listFitsIndex, Bool.and_eq_true, decide_eq_true_eq]; lia
    · refine k _ _ _ _ ⟨x, H', rfl, iv, h⟩ (S.mut u (Heap.SameBut.update ..) (Heap.get?_update_self _ e rfl) ⟨vs.eraseIdxIfInBounds j, _, rfl, ?_⟩)
      have := r.erase j
      have e2 : (vs.eraseIdxIfInBounds j).toList = vs.toList.eraseIdx j := by simp
      rw [e2]; exact this
theorem All2.reverse : ∀ {as : List AV} {vs : List Value}, All2 as vs → All2 as.reverse vs.reverse
  | [], [], _ => trivial
  | _ :: _, _ :: _, h => by rw [List.reverse_cons, List.reverse_cons]; exact (All2.reverse h.2).append ⟨h.1, trivial⟩
theorem CB.reverse {l : Addr} {xs : List AV} (u : Upd H l (.list xs) (.list xs.reverse) H') (hsz : xs.length ≤ 1000) (h : Q .none H') : OPL C A (fun Vs => call (.builtin "list.reverse") Vs) [.ref l] L m H Q :=
  .one fun V i F s Qc E S k => by
    obtain ⟨_, rfl⟩ := i.inv
    obtain ⟨vs, n, e, r⟩ := S.list (List.mem_append_left F (.tail _ u.mem))
    have hlen : vs.size = xs.length := by rw [← r.length]; simp
    refine call_meets PySem.F.slot_list_reverse ⟨_, e, rfl⟩ PySem.F.entry_list_reverse (PySem.F.args_list_reverse_1 _) (AutoListH.list_reverse_list_0 l vs n (by rw [hlen]; exact Nat.le_trans hsz (by decide))) ⟨e, ?_⟩
    refine k _ _ _ _ ⟨_, H', rfl, .none, h⟩ (S.mut u (Heap.SameBut.update ..) (Heap.get?_update_self _ e rfl) ⟨vs.reverse, _, rfl, ?_⟩)
    rw [Array.toList_reverse]; exact r.reverse

/- lengths -/
theorem CB.lenList {l : Addr} {xs : List AV} (hm : (l, AO.list xs) ∈ H) (hsz : xs.length ≤ 1000) (h : Q (.int xs.length) H) : OPL C A (fun Vs => call (.builtin "len") Vs) [.ref l] L m H Q :=
  .one fun V i F s Qc E S k => by
    obtain ⟨_, rfl⟩ := i.inv
    obtain ⟨vs, n, e, r⟩ := S.list (List.mem_append_left F (.tail _ hm))
    have hlen : vs.size = xs.length := by rw [← r.length]; simp
    exact PyProof.Rows.len_list (isList_of e) (by rw [hlen]; lia) (k _ _ s.heap _ ⟨_, H, rfl, by rw [hlen]; exact .int _ _, h⟩ S)
theorem CB.lenStr {x : Str} (hsz : x.length ≤ 100000) (h : Q (.int x.length) H) : OPL C A (fun Vs => call (.builtin "len") Vs) [.str x] L m H Q :=
  .one fun V i F s Qc E S k => by
    obtain ⟨_, rfl⟩ := i.inv
    exact PySem.P.len_str (by lia) (k _ _ s.heap _ ⟨_, H, rfl, .int _ _, h⟩ S)
theorem CB.lenDict {d : Addr} {es : List (Str × AV)} (hd : C.Ok) (hm : (d, AO.dict es) ∈ H) (hsz : es.length ≤ 1000) (h : Q (.int es.length) H) : OPL C A (fun Vs => call (.builtin "len") Vs) [.ref d] L m H Q :=
  .one fun V i F s Qc E S k => by
    obtain ⟨_, rfl⟩ := i.inv
    have hm' := List.mem_append_left F (List.Mem.tail (L, AO.ns m) hm)
    obtain ⟨kvs, D, p⟩ := S.dict hm'
    have e : kvs.length = es.length := p.length
    have nm : (d == sysModules) = false := by
      refine beq_eq_false_iff_ne.mpr fun q => ?_
      obtain ⟨o, ho⟩ := hd.mods
      have := (S.at_ _ hm').1
      have : C.h₀.get? d = none := this
      rw [q, ho] at this; cases this
    exact PySem.call_len_dict nm D (by rw [e]; lia) (k _ _ s.heap _ ⟨_, H, rfl, by rw [e]; exact .int _ _, h⟩ S)

/- min, max, abs, ord, chr, range -/
theorem CB.min2 {a b : Int} (hh : A.handled = none) (h : Q (.int (if b < a then b else a)) H) : OPL C A (fun Vs => call (.builtin "min") Vs) [.int a, .int b] L m H Q :=
  .two fun V W i j F s Qc E S k => by
    obtain ⟨_, rfl⟩ := i.inv; obtain ⟨_, rfl⟩ := j.inv
    refine PySem.min_two_ints hh fun h' tk hk => k _ _ _ _ ⟨_, H, rfl, ?_, h⟩ (S.grow hk)
    split <;> exact .int _ _
theorem CB.max2 {a b : Int} (hh : A.handled = none) (h : Q (.int (if b > a then b else a)) H) : OPL C A (fun Vs => call (.builtin "max") Vs) [.int a, .int b] L m H Q :=
  .two fun V W i j F s Qc E S k => by
    obtain ⟨_, rfl⟩ := i.inv; obtain ⟨_, rfl⟩ := j.inv
    refine PySem.max_two_ints hh fun h' tk hk => k _ _ _ _ ⟨_, H, rfl, ?_, h⟩ (S.grow hk)
    split <;> exact .int _ _
theorem CB.abs {a : Int} (h : Q (.int (if a < 0 then -a else a)) H) : OPL C A (fun Vs => call (.builtin "abs") Vs) [.int a] L m H Q :=
  .one fun V i F s Qc E S k => by
    obtain ⟨_, rfl⟩ := i.inv; exact PyProof.Rows.call_abs_int fun u tk => k _ _ s.heap tk ⟨_, H, rfl, .int _ _, h⟩ S
theorem CB.ord {x : Str} (h1 : x.length = 1) (h : Q (.int (x.cps.getD 0 0 : Nat)) H) : OPL C A (fun Vs => call (.builtin "ord") Vs) [.str x] L m H Q :=
  .one fun V i F s Qc E S k => by
    obtain ⟨_, rfl⟩ := i.inv; exact PyProof.Rows.ord_of_one h1 (k _ _ s.heap _ ⟨_, H, rfl, .int _ _, h⟩ S)
theorem CB.chr {i : Int} (h0 : 0 ≤ i) (h1 : i ≤ 1114111) (h : Q (.str ⟨#[i.toNat]⟩) H) : OPL C A (fun Vs => call (.builtin "chr") Vs) [.int i] L m H Q :=
  .one fun V i F s Qc E S k => by
    obtain ⟨_, rfl⟩ := i.inv; exact PyProof.Rows.chr_of_range h0 h1 (k _ _ s.heap _ ⟨_, H, rfl, .str _ _, h⟩ S)
theorem CB.range1 {b : Int} (h : ∀ r, Q (.ref r) ((r, .rng 0 b 1) :: H)) : OPL C A (fun Vs => call (.type "range") Vs) [.int b] L m H Q :=
  .one fun V i F s Qc E S k => by
    obtain ⟨_, rfl⟩ := i.inv; exact PySem.call_range_1 (k _ _ _ _ ⟨_, _, rfl, .ref _, h _⟩ (Sat.new S ⟨_, _, _, rfl⟩))
theorem CB.range3 {a b c : Int} (hc : c ≠ 0) (hs : c.natAbs < 1073741824) (h : ∀ r, Q (.ref r) ((r, .rng a b c) :: H)) : OPL C A (fun Vs => call (.type "range") Vs) [.int a, .int b, .int c] L m H Q :=
  .three fun V W X i j l F s Qc E S k => by
    obtain ⟨_, rfl⟩ := i.inv; obtain ⟨_, rfl⟩ := j.inv; cases l; exact call_range_3 hc (k _ _ _ _ ⟨_, _, rfl, .ref _, h _⟩ (Sat.new S ⟨_, _, _, rfl⟩)) (.inl (PyProof.noPylong_small hs))
theorem CB.divmod {a b : Int} (hb : b ≠ 0) (hs : b.natAbs < 1073741824) (h : ∀ r, Q (.ref r) ((r, .tup [.int (a.fdiv b), .int (a.fmod b)]) :: H)) : OPL C A (fun Vs => call (.builtin "divmod") Vs) [.int a, .int b] L m H Q :=
  .two fun V W i j F s Qc E S k => by
    obtain ⟨_, rfl⟩ := i.inv; obtain ⟨_, rfl⟩ := j.inv
    exact PyProof.Rows.divmod_int hb (k _ _ _ _ ⟨_, _, rfl, .ref _, h _⟩ (Sat.new S ⟨_, _, rfl, .int _ _, .int _ _, trivial⟩)) (.inl (PyProof.noPylong_small hs))
theorem CB.bitLength {a : Int} (h : Q (.int (Builtin.Int.intBits a)) H) : OPL C A (fun Vs => call (.builtin "int.bit_length") Vs) [.int a] L m H Q :=
  .one fun V i F s Qc E S k => by
    obtain ⟨_, rfl⟩ := i.inv; exact PyProof.Rows.call_int_bit_length (k _ _ s.heap _ ⟨_, H, rfl, .int _ _, h⟩ S)
theorem CB.sum {l : Addr} {ns : List Int} (hh : A.handled = none) (hm : (l, AO.list (ns.map .int)) ∈ H) (h : Q (.int ns.sum) H) : OPL C A (fun Vs => call (.builtin "sum") Vs) [.ref l] L m H Q :=
  .one fun V i F s Qc E S k => by
    obtain ⟨_, rfl⟩ := i.inv
    obtain ⟨vs, n, e, r⟩ := S.list (List.mem_append_left F (.tail _ hm))
    have hi := intsAre r
    obtain ⟨xs, hx⟩ := hi.allInts.items
    have hx' : vs = intItems xs := by rw [← hx]
    have hl' : s.heap.IsList l (intItems xs) := hx' ▸ isList_of e
    refine sum_intListG hh hl' fun h' tk t' hk => ?_
    have e1 : ns = xs.toList.map (·.1) := by
      rw [← nums_intItems, ← hx']
      exact (show numsOf vs.toList = ns from hi.numsOf).symm
    have e2 : preSum (numAt xs) xs.size = ns.sum := by
      rw [preSum_eq, List.take_of_length_le (by simp), e1]
    rw [e2]
    exact k _ _ _ _ ⟨_, H, rfl, .int _ _, h⟩ (S.grow hk)
theorem CB.sorted {l : Addr} {ns : List Int} (hm : (l, AO.list (ns.map .int)) ∈ H) (h64 : ns.length < 64) (h : ∀ (ns' : List Int) b, ns'.Perm ns → ns'.Pairwise (· ≤ ·) → Q (.ref b) ((b, .list (ns'.map .int)) :: H)) : OPL C A (fun Vs => call (.builtin "sorted") Vs) [.ref l] L m H Q :=
  .one fun V i F s Qc E S k => by
    obtain ⟨_, rfl⟩ := i.inv
    obtain ⟨vs, n, e, r⟩ := S.list (List.mem_append_left F (.tail _ hm))
    have hlen : vs.toList.length = ns.length := by rw [r.length]; simp
    refine PyProof.Rows.sorted_ints (vs := vs.toList) (by simpa using isList_of e) (intsAre r) (by rw [hlen]; exact h64) fun out ns' hi hp hs => ?_
    obtain ⟨c, hc⟩ := sortedAll_at s.heap vs.toList out
    refine k _ _ _ _ ⟨_, _, rfl, .ref _, h ns' _ hp hs⟩ (S.grown (fun b x e => sortedAll_old e) ?_ hc ⟨out, c, rfl, ofIntsAre hi⟩)
    cases q : s.heap.get? (s.heap.objs.size + 1) with
    | none => rfl
    | some o => exact absurd (Heap.lt_size q) (Nat.not_lt.mpr (Nat.le_succ _))

/- strs -/
theorem CB.join {l : Addr} {x : Str} {ys : List Str} (hm : (l, AO.list (ys.map .str)) ∈ H) (hok : (ys.map (·.length)).sum + ys.length * x.length ≤ 16777216) (h : Q (.str (Txt.join x ys)) H) : OPL C A (fun Vs => call (.builtin "str.join") Vs) [.str x, .ref l] L m H Q :=
  .two fun V W i j F s Qc E S k => by
    obtain ⟨_, rfl⟩ := i.inv; obtain ⟨_, rfl⟩ := j.inv
    obtain ⟨vs, n, e, r⟩ := S.list (List.mem_append_left F (.tail _ hm))
    exact PyProof.Rows.join_list (isList_of e) (strsAre r) hok fun t' kk => k _ _ s.heap kk ⟨_, H, rfl, .str _ _, h⟩ S
theorem CB.index {x y : Str} {i : Nat} {rest : List Nat} (ho : Builtin.Str.occurrences x y 0 x.length 1 = i :: rest) (h : Q (.int i) H) : OPL C A (fun Vs => call (.builtin "str.index") Vs) [.str x, .str y] L m H Q :=
  .two fun V W i' j F s Qc E S k => by
    obtain ⟨_, rfl⟩ := i'.inv; obtain ⟨_, rfl⟩ := j.inv
    exact PySem.SC.index ho (k _ _ s.heap _ ⟨_, H, rfl, .int _ _, h⟩ S)
theorem CB.lower {x y : Str} (e : Txt.lower x = y) (hf : Builtin.Str.tooLong y.length = false) (h : Q (.str y) H) : OPL C A (fun Vs => call (.builtin "str.lower") Vs) [.str x] L m H Q :=
  .one fun V i F s Qc E S k => by
    obtain ⟨_, rfl⟩ := i.inv; subst e
    exact PySem.SC.lower hf (k _ _ s.heap _ ⟨_, H, rfl, .str _ _, h⟩ S)
theorem CB.swapcase {x y : Str} (e : Txt.swapcase x = y) (hf : Builtin.Str.tooLong y.length = false) (h : Q (.str y) H) : OPL C A (fun Vs => call (.builtin "str.swapcase") Vs) [.str x] L m H Q :=
  .one fun V i F s Qc E S k => by
    obtain ⟨_, rfl⟩ := i.inv; subst e
    exact PySem.SC.swapcase hf (k _ _ s.heap _ ⟨_, H, rfl, .str _ _, h⟩ S)

/- lists by operators -/
theorem All2.flatten_replicate {as : List AV} {vs : List Value} (h : All2 as vs) : ∀ n, All2 (List.replicate n as).flatten (List.replicate n vs).flatten
  | 0 => trivial
  | n + 1 => by rw [List.replicate_succ, List.flatten_cons, List.replicate_succ, List.flatten_cons]; exact h.append (All2.flatten_replicate h n)
theorem OP.addl {l b : Addr} {xs ys : List AV} (hl : (l, AO.list xs) ∈ H) (hb : (b, AO.list ys) ∈ H) (hsz : xs.length + ys.length ≤ 1000) (h : ∀ c, Q (.ref c) ((c, .list (xs ++ ys)) :: H)) : OP2 C A (binaryOp .Add) (.ref l) (.ref b) L m H Q := by
  intro Va Vb ia ib F s Qc E S k; obtain ⟨_, rfl⟩ := ia.inv; obtain ⟨_, rfl⟩ := ib.inv
  obtain ⟨vs, n, e, r⟩ := S.list (List.mem_append_left F (.tail _ hl))
  obtain ⟨ws, n', e', r'⟩ := S.list (List.mem_append_left F (.tail _ hb))
  have h1 : vs.size = xs.length := by rw [← r.length]; simp
  have h2 : ws.size = ys.length := by rw [← r'.length]; simp
  refine PySem.P.add_list e e' (k _ _ _ _ ⟨_, _, rfl, .ref _, h _⟩ (Sat.new S ⟨_, _, rfl, ?_⟩)) (by rw [h1, h2]; exact Nat.le_trans hsz (by decide))
  rw [Array.toList_append]; exact r.append r'
theorem foldl_app (a : Array Value) : ∀ n, List.foldl (fun (x1 x2 : Array Value) => x1 ++ x2) a (List.replicate n a) = List.foldl (fun (x1 x2 : Array Value) => x1 ++ x2) #[] (List.replicate (n + 1) a) := fun n => by rw [List.replicate_succ, List.foldl_cons]; simp
theorem foldl_toList (b : Array Value) : ∀ (l : List (Array Value)) , (List.foldl (fun (x1 x2 : Array Value) => x1 ++ x2) b l).toList = b.toList ++ (l.map (·.toList)).flatten
  | [] => by simp
  | x :: l => by rw [List.foldl_cons, foldl_toList (b ++ x) l]; simp
set_option tactic.hygienic true in
theorem OP.mull {l : Addr} {x : AV} {i : Int} (hl : (l, AO.list [x]) ∈ H) (h0 : 0 ≤ i) (h1 : i ≤ 1000) (h : ∀ c, Q (.ref c) ((c, .list (List.replicate i.toNat x)) :: H)) : OP2 C A (binaryOp .Mult) (.ref l) (.int i) L m H Q := by
  intro Va Vb ia ib F s Qc E S k; obtain ⟨_, rfl⟩ := ia.inv; obtain ⟨_, rfl⟩ := ib.inv
  obtain ⟨vs, n, e, r⟩ := S.list (List.mem_append_left F (.tail _ hl))
  have hs : vs.size = 1 := by have := r.length; simpa using this
  rename_i u
  refine wpAny_binaryOp_repeat_ref (T := "list") (U := "int") (by decide) ⟨_, e, rfl⟩ (fun s' => typeIs_int s' i u) noFill_list_mul PySem.F.fills_int_mul PySem.F.slot_int_rmul repeat_list PySem.F.slot_int_index.lookup
    (call_meets PySem.F.slot_int_rmul (typeIs_int s i u) PySem.F.entry_int_rmul (PySem.F.args_int_rmul_2 _ _) (int___rmul___int_list i u l vs n)
      ⟨e, rfl, ⟨_, e, rfl⟩, call_meets PySem.F.slot_list_mul ⟨_, e, rfl⟩ PySem.F.entry_list_mul (PySem.F.args_list_mul_2 _ _)
        (AutoListH.list___mul___list_int_3 l vs n i u (by simp [Builtin.List.listFitsIndex]; lia) (by rw [hs]; lia) (by rw [hs]; simp [Builtin.List.listTooLong, sizeLine]; lia))
        ⟨e, ?_⟩⟩)
  refine k _ _ _ _ ⟨_, _, rfl, .ref _, h _⟩ (Sat.new S ⟨_, _, rfl, ?_⟩)
  have hne : vs.isEmpty = false := by rw [Array.isEmpty_eq_false_iff]; intro q; rw [q] at hs; simp at hs
  rw [hne, foldl_toList]
  have := r.flatten_replicate i.toNat
  simpa using this
end

section
variable {C : Cx} {A : Around} {env : Env} {names : List (Str × NameKind)} {cells : List (Str × Addr)} {L : Addr} {m m' : Loc} {H H' : HS}

theorem TV.at {t : Sem Value} {Q : AV → HS → Prop} (h : TV C A t L m H Q) {F : HS} {s : Shared} {Qc : Value → Shared → Prop} {E : Value → Shared → Prop} (S : Sat C (((L, .ns m) :: H) ++ F) s.heap)
    (k : ∀ v V H' h' tk', Is v V → Q v H' → Sat C (((L, .ns m) :: H') ++ F) h' → Qc V { s with heap := h', toks := tk' }) : wpAny C.M A t Qc E s :=
  h F s Qc E S fun V _ h' tk' ⟨v, H', e, i, q⟩ S' => by subst e; exact k v V H' h' tk' i q S'

/- chains of two -/
theorem EV.chain {l r₁ r₂ : Expr} {op₁ op₂ : CmpOp} {pos : Pos} {Q : AV → HS → Prop}
    (h : EV C A l env m H fun a H₁ => EV C A r₁ env m H₁ fun b H₂ => OP2 C A (compareOp op₁) a b env.locals m H₂ fun c H₃ => TRU C A c env.locals m H₃ fun t H₄ =>
      if t = true then EV C A r₂ env m H₄ fun d H₅ => OP2 C A (compareOp op₂) b d env.locals m H₅ Q else Q c H₄)
    (hm : autoParam (lastMarks [op₁, op₂] [r₁, r₂] = false) aU) : EV C A (.Compare l [op₁, op₂] [r₁, r₂] pos) env m H Q := by
  intro F s Qc E S k
  refine Compare_chain (TV.at h S fun a Va H₁ h₁ t₁ ia q₁ S₁ => chain_link (TV.at q₁ (s := { s with heap := h₁, toks := t₁ }) S₁ fun b Vb H₂ h₂ t₂ ib q₂ S₂ => ?_)) hm
  refine TV.at (q₂ _ _ ia ib) (s := { s with heap := h₂, toks := t₂ }) S₂ fun c Vc H₃ h₃ t₃ ic q₃ S₃ => q₃ _ ic F { s with heap := h₃, toks := t₃ } _ _ S₃ fun t _ h₄ t₄ ⟨H₄, e, q₄⟩ S₄ => ?_
  subst e
  cases t
  · exact k _ _ _ _ ⟨c, H₄, rfl, ic, q₄⟩ S₄
  · refine chain_last (TV.at q₄ (s := { s with heap := h₄, toks := t₄ }) S₄ fun d Vd H₅ h₅ t₅ id q₅ S₅ => ?_)
    exact q₅ _ _ ib id F { s with heap := h₅, toks := t₅ } _ _ S₅ k

/- statements with targets -/
noncomputable def LDN (C : Cx) (A : Around) (env : Env) (x : Str) (m : Loc) (H : HS) (Q : AV → HS → Prop) : Prop := TV C A (loadName env x) env.locals m H Q
theorem LDN.loc {x : Str} {v : AV} {Q : AV → HS → Prop} (E : EnvOk env names cells) (hn : At names x .local) (hm : At m x v) (h : Q v H) (hu : autoParam (v ≠ .undef) aNo) : LDN C A env x m H Q := by
  intro F s Qc E' S k
  obtain ⟨f, hf, K⟩ := S.ns (.head _)
  obtain ⟨V, e, i⟩ := K.2 _ hm.mem hu
  exact wpAny_loadName_local E.kind (E.kindOf hn) hf e (k _ _ _ _ ⟨v, H, rfl, i, h⟩ S)
theorem ES.augName {x : Str} {p pos : Pos} {op : Operator} {value : Expr} {Q : FL → Loc → HS → Prop} (E : EnvOk env names cells) (hn : At names x .local)
    (h : LDN C A env x m H fun a H₁ => EV C A value env m H₁ fun b H₂ => OP2 C A (inplaceOp op) a b env.locals m H₂ fun c H₃ => ∃ m', Put m x c m' ∧ Q .next m' H₃) : ES C A (.AugAssign (.Name x p) op value pos) env m H Q := by
  intro F s Qc E' S k
  refine wpAny_AugAssign_Name (TV.at h S fun a Va H₁ h₁ t₁ ia q₁ S₁ => TV.at q₁ (s := { s with heap := h₁, toks := t₁ }) S₁ fun b Vb H₂ h₂ t₂ ib q₂ S₂ => TV.at (q₂ _ _ ia ib) (s := { s with heap := h₂, toks := t₂ }) S₂ fun c Vc H₃ h₃ t₃ ic ⟨m', hp, q₃⟩ S₃ => ?_)
  exact store_loc (Q := fun _ H' => H' = (env.locals, .ns m') :: H₃) E hn hp ic rfl F { s with heap := h₃, toks := t₃ } _ E' S₃ fun _ H' h₄ t₄ e S₄ => by subst e; exact k _ _ _ _ ⟨.next, m', H₃, rfl, trivial, q₃⟩ S₄
theorem ES.augSub {o i : Expr} {p pos : Pos} {op : Operator} {value : Expr} {Q : FL → Loc → HS → Prop}
    (h : EV C A o env m H fun a H₁ => EV C A i env m H₁ fun j H₂ => OP2 C A getItem a j env.locals m H₂ fun old H₃ => EV C A value env m H₃ fun v H₄ => OP2 C A (inplaceOp op) old v env.locals m H₄ fun new H₅ => ST C A a j new env.locals m H₅ fun H₆ => Q .next m H₆)
    (hi : autoParam (∀ ov iv new, augStore i ov iv new = (do holding [new, ov, iv] (setItem ov iv new); release [new, ov, iv] []; pure .next)) aIs) : ES C A (.AugAssign (.Subscript o i p) op value pos) env m H Q := by
  intro F s Qc E' S k
  refine wpAny_AugAssign_SubscriptAny (TV.at h S fun a Va H₁ h₁ t₁ ia q₁ S₁ => TV.at q₁ (s := { s with heap := h₁, toks := t₁ }) S₁ fun b Vb H₂ h₂ t₂ ib q₂ S₂ => TV.at (q₂ _ _ ia ib) (s := { s with heap := h₂, toks := t₂ }) S₂ fun c Vc H₃ h₃ t₃ ic q₃ S₃ => ?_) hi
  refine TV.at q₃ (s := { s with heap := h₃, toks := t₃ }) S₃ fun d Vd H₄ h₄ t₄ id q₄ S₄ => TV.at (q₄ _ _ ic id) (s := { s with heap := h₄, toks := t₄ }) S₄ fun e Ve H₅ h₅ t₅ ie q₅ S₅ => ?_
  exact q₅ _ _ _ ia ib ie F { s with heap := h₅, toks := t₅ } _ _ S₅ fun _ _ h₆ t₆ ⟨H₆, e, q₆⟩ S₆ => by subst e; exact k _ _ _ _ ⟨.next, m, H₆, rfl, trivial, q₆⟩ S₆
theorem ES.assignSub {o i : Expr} {p pos : Pos} {value : Expr} {Q : FL → Loc → HS → Prop}
    (h : EV C A value env m H fun v H₁ => EV C A o env m H₁ fun a H₂ => EV C A i env m H₂ fun j H₃ => ST C A a j v env.locals m H₃ fun H₄ => Q .next m H₄)
    (hs : autoParam (swapsWith value (some (.Subscript o i p)) pos.line env = pure false) aRfl) : ES C A (.Assign [.Subscript o i p] value pos) env m H Q := by
  intro F s Qc E' S k
  refine wpAny_Assign_Subscript (TV.at h S fun a Va H₁ h₁ t₁ ia q₁ S₁ => TV.at q₁ (s := { s with heap := h₁, toks := t₁ }) S₁ fun b Vb H₂ h₂ t₂ ib q₂ S₂ => TV.at q₂ (s := { s with heap := h₂, toks := t₂ }) S₂ fun c Vc H₃ h₃ t₃ ic q₃ S₃ => ?_) hs
  exact q₃ _ _ _ ib ic ia F { s with heap := h₃, toks := t₃ } _ _ S₃ fun _ _ h₆ t₆ ⟨H₆, e, q₆⟩ S₆ => by subst e; exact k _ _ _ _ ⟨.next, m, H₆, rfl, trivial, q₆⟩ S₆
theorem ES.assignTup {elts : List Expr} {kk : Nat} {p pos : Pos} {value : Expr} {Q : FL → Loc → HS → Prop}
    (h : EV C A value env m H fun v H₁ => ASG C A (.Tuple elts kk p) v env m H₁ fun m' H₂ => Q .next m' H₂)
    (hs : autoParam (swapsWithSole [.Tuple elts kk p] value pos.line env = pure false) aRfl) (hw : autoParam (swappedStores [.Tuple elts kk p] value env = pure none) aRfl) : ES C A (.Assign [.Tuple elts kk p] value pos) env m H Q := by
  intro F s Qc E' S k
  exact PyProof.Rows.Assign_Tuple (TV.at h S fun a Va H₁ h₁ t₁ ia q₁ S₁ => q₁ _ ia F { s with heap := h₁, toks := t₁ } _ _ S₁ fun _ _ h₂ t₂ ⟨m', H₂, e, q₂⟩ S₂ => by subst e; exact k _ _ _ _ ⟨.next, m', H₂, rfl, trivial, q₂⟩ S₂) hs hw

set_option tactic.hygienic true in
theorem GI.list {l : Addr} {xs : List AV} {i : Int} {j : Nat} {x : AV} {Q : AV → HS → Prop} (hm : (l, AO.list xs) ∈ H) (hj : seqIndex? i xs.length = some j) (hx : xs[j]? = some x) (h : Q x H)
    (hb : -(2 ^ 63) ≤ i ∧ i < 2 ^ 63 := by constructor <;> omega) : OP2 C A getItem (.ref l) (.int i) L m H Q := by
  intro Va Vb ia ib F s Qc E S k; obtain ⟨_, rfl⟩ := ia.inv; obtain ⟨_, rfl⟩ := ib.inv
  obtain ⟨vs, n, e, r⟩ := S.list (List.mem_append_left F (.tail _ hm))
  have hlen : vs.size = xs.length := by rw [← r.length]; simp
  obtain ⟨v, hv, iv⟩ := r.get hx
  have hv' : vs[j]? = some v := by simpa using hv
  have fin := k v _ s.heap s.toks ⟨x, H, rfl, iv, h⟩ S
  unfold seqIndex? at hj
  by_cases hneg : i < 0
  · simp only [hneg, if_true] at hj
    split at hj
    · rename_i q
      simp only [Bool.and_eq_true, decide_eq_true_eq] at q
      refine wpAny_getItem_list_neg (isList_of e) hneg (by lia) hb.1 ?_ fin
      rw [hlen]; cases hj; exact hv'
    · cases hj
  · simp only [hneg, if_false] at hj
    split at hj
    · rename_i q
      refine wpAny_getItem_list (isList_of e) (by lia) hb.2 ?_ fin
      cases hj; exact hv'
    · cases hj

/- slices -/
inductive Part : AV → Option Int → Prop where
  | none : Part .none none
  | int {i} : Part (.int i) (some i)
noncomputable def EP (C : Cx) (A : Around) (e : Option Expr) (env : Env) (m : Loc) (H : HS) (Q : Option Int → HS → Prop) : Prop := TV C A (evalPart e env) env.locals m H fun v H' => ∃ p, Part v p ∧ Q p H'
theorem EP.none {Q : Option Int → HS → Prop} (h : Q none H) : EP C A none env m H Q := fun F s _ _ S k => wpAny_pure (k _ _ s.heap s.toks ⟨.none, H, rfl, .none, _, .none, h⟩ S)
theorem EP.some {e : Expr} {Q : Option Int → HS → Prop} (h : EV C A e env m H fun v H' => ∃ i, v = .int i ∧ Q (some i) H') : EP C A (some e) env m H Q := TV.mono h fun v H' ⟨i, e, q⟩ => by subst e; exact ⟨_, .int, q⟩
noncomputable def pickL {α : Type} (xs : List α) (lo hi st : Option Int) : List α := (sliceRange (sliceBounds lo hi st xs.length).1 (sliceBounds lo hi st xs.length).2.1 (sliceBounds lo hi st xs.length).2.2).filterMap fun i => xs[i]?
theorem All2.pick {as : List AV} {vs : List Value} (h : All2 as vs) : ∀ I : List Nat, All2 (I.filterMap fun i => as[i]?) (I.filterMap fun i => vs[i]?)
  | [] => trivial
  | i :: I => by
    cases q : as[i]? with
    | none =>
      have : vs[i]? = none := by rw [List.getElem?_eq_none_iff, h.length, ← List.getElem?_eq_none_iff]; exact q
      simp only [List.filterMap_cons, q, this]; exact All2.pick h I
    | some a =>
      obtain ⟨v, e, i'⟩ := h.get q
      simp only [List.filterMap_cons, q, e]; exact ⟨i', All2.pick h I⟩
theorem Part.is {v : AV} {V : Value} {p : Option Int} (h : Part v p) (i : Is v V) : IsPart V p := by
  cases h <;> cases i
  · exact .none
  · exact .int _ _
theorem EV.sliceL {value : Expr} {lower upper : Option Expr} {p pos : Pos} {Q : AV → HS → Prop}
    (h : EV C A value env m H fun a H₁ => EP C A lower env m H₁ fun lo H₂ => EP C A upper env m H₂ fun hi H₃ => ∃ l xs, a = .ref l ∧ (l, AO.list xs) ∈ H₃ ∧ xs.length ≤ 1000 ∧ ∀ b, Q (.ref b) ((b, .list (pickL xs lo hi Option.none)) :: H₃))
    (ht : autoParam (∀ o r, letTemporaryGo value o r = pure ()) aII) : EV C A (.Subscript value (.Slice lower upper Option.none p) pos) env m H Q := by
  intro F s Qc E S k
  refine wpAny_Subscript_list_slice (TV.at h S fun a Va H₁ h₁ t₁ ia q₁ S₁ => TV.at q₁ (s := { s with heap := h₁, toks := t₁ }) S₁ fun b Vb H₂ h₂ t₂ ib ⟨lo, pl, q₂⟩ S₂ => TV.at q₂ (s := { s with heap := h₂, toks := t₂ }) S₂ fun c Vc H₃ h₃ t₃ ic ⟨hi, ph, q₃⟩ S₃ => ?_) ht
  obtain ⟨l, xs, e, hm, hsz, q₃⟩ := q₃
  subst e; obtain ⟨_, rfl⟩ := ia.inv
  obtain ⟨vs, n, e, r⟩ := S₃.list (List.mem_append_left F (.tail _ hm))
  have hlen : vs.size = xs.length := by rw [← r.length]; simp
  refine ⟨l, vs, lo, hi, rfl, isList_of e, by show vs.size ≤ _; rw [hlen]; exact Nat.le_trans hsz (by decide), pl.is ib, ph.is ic, ?_⟩
  have S₄ := S₃.grow (h' := h₃.push { cls := .type "slice", data := .fields #[Vb, Vc, Value.none] }) fun b o e => Heap.get?_push_of_some _ e
  have S₅ := Sat.new S₄ (o := { cls := .type "list", data := .seq (slicePick vs lo hi Option.none) }) (ao := .list (pickL xs lo hi Option.none)) ⟨_, _, rfl, by
    unfold slicePick pickL
    rw [hlen]
    have := r.pick (sliceRange (sliceBounds lo hi Option.none xs.length).1 (sliceBounds lo hi Option.none xs.length).2.1 (sliceBounds lo hi Option.none xs.length).2.2)
    simpa using this⟩
  rw [Heap.size_push] at S₅
  exact k _ _ _ t₃ ⟨_, _, rfl, .ref _, q₃ _⟩ S₅
noncomputable def pickS (x : Str) (lo hi : Option Int) : Str :=
  if (Builtin.Str.strSliceIndices lo hi 1 x.length).length == x.length then x else ⟨((Builtin.Str.strSliceIndices lo hi 1 x.length).filterMap (x.cps[·]?)).toArray⟩
set_option tactic.hygienic true in
theorem EV.sliceS {value : Expr} {lower upper : Option Expr} {p pos : Pos} {Q : AV → HS → Prop}
    (h : EV C A value env m H fun a H₁ => EP C A lower env m H₁ fun lo H₂ => EP C A upper env m H₂ fun hi H₃ => ∃ x, a = .str x ∧ (pickS x lo hi).length ≤ 100000 ∧ Q (.str (pickS x lo hi)) H₃)
    (ht : autoParam (∀ o r, letTemporaryGo value o r = pure ()) aII) : EV C A (.Subscript value (.Slice lower upper Option.none p) pos) env m H Q := by
  intro F s Qc E S k
  refine wpAny_Subscript_str_slice (TV.at h S fun a Va H₁ h₁ t₁ ia q₁ S₁ => TV.at q₁ (s := { s with heap := h₁, toks := t₁ }) S₁ fun b Vb H₂ h₂ t₂ ib ⟨lo, pl, q₂⟩ S₂ => TV.at q₂ (s := { s with heap := h₂, toks := t₂ }) S₂ fun c Vc H₃ h₃ t₃ ic ⟨hi, ph, q₃⟩ S₃ => ?_) ht
  obtain ⟨x, e, hsz, q₃⟩ := q₃
  subst e; obtain ⟨_, rfl⟩ := ia.inv
  rename_i t
  have part : ∀ {v : AV} {V : Value} {p : Option Int}, Part v p → Is v V → ∃ q : Option (Int × Tok), V = partValue q ∧ q.map (·.1) = p := fun pl i => by
    cases pl <;> cases i
    · exact ⟨Option.none, rfl, rfl⟩
    · exact ⟨Option.some (_, _), rfl, rfl⟩
  obtain ⟨q1, e1, e2⟩ := part pl ib
  obtain ⟨q2, e3, e4⟩ := part ph ic
  refine ⟨x, t, q1, q2, rfl, e1, e3, ?_⟩
  have S₄ := S₃.grow (h' := h₃.push { cls := .type "slice", data := .fields #[Vb, Vc, Value.none] }) fun b o e => Heap.get?_push_of_some _ e
  unfold sliceMade slicePicked
  rw [e2, e4]
  unfold pickS at q₃ hsz
  simp only [Option.map_none, Option.getD_none, beq_self_eq_true, Bool.true_and]
  split
  · rename_i hc
    rw [if_pos hc] at q₃
    exact k _ _ _ _ ⟨_, _, rfl, .str _ _, q₃⟩ S₄
  · rename_i hc
    rw [if_neg hc] at q₃
    rw [if_neg hc] at hsz
    exact ⟨Nat.le_trans hsz (by decide), k _ _ _ _ ⟨_, _, rfl, .str _ _, q₃⟩ S₄⟩
end

section
variable {C : Cx} {A : Around} {env : Env} {names : List (Str × NameKind)} {cells : List (Str × Addr)} {L : Addr} {m m' : Loc} {H H' : HS} {Q : FL → Loc → HS → Prop} {rest : List Stmt}

/- a statement and what follows -/
theorem EB.assign {x : Str} {p' pos : Pos} {e : Expr} (E : EnvOk env names cells) (hn : At names x .local) (h : EV C A e env m H (kPut C A x rest env m Q))
    (hs : autoParam (swapsWith e (some (.Name x p')) pos.line env = pure false) aRfl) : EB C A (.Assign [.Name x p'] e pos :: rest) env m H Q :=
  EB.cons (ES.assign E hn h hs)
theorem EB.assignC {x : Str} {c : Addr} {p' pos : Pos} {e : Expr} (E : EnvOk env names cells) (hn : At names x .cell) (hc : At cells x c)
    (h : EV C A e env m H fun v H₁ => ∃ u H₂, Upd H₁ c (.cell u) (.cell v) H₂ ∧ EB C A rest env m H₂ Q)
    (hs : autoParam (swapsWith e (some (.Name x p')) pos.line env = pure false) aRfl) : EB C A (.Assign [.Name x p'] e pos :: rest) env m H Q :=
  EB.cons (ES.assignC' E hn hc h hs)
theorem EB.expr {e : Expr} {pos : Pos} (E : EnvOk env names cells) (h : EV C A e env m H (kNext C A rest env m Q)) (hs : autoParam (swapsWith e none pos.line env = pure false) aRfl) : EB C A (.Expr e pos :: rest) env m H Q :=
  EB.cons (ES.expr E h hs)
theorem EB.ret {e : Expr} {pos : Pos} (h : EV C A e env m H (kRet m Q)) : EB C A (.Return (some e) pos :: rest) env m H Q :=
  EB.cons (ES.ret h)
theorem EB.ret0 {pos : Pos} (h : Q (.ret .none) m H) : EB C A (.Return none pos :: rest) env m H Q :=
  EB.cons (ES.ret0 h)
theorem EB.if {test : Expr} {body orelse : List Stmt} {pos : Pos} (h : ET C A test env m H fun b H₁ => if b = true then EB C A body env m H₁ (seqQ Q (kRest C A rest env Q)) else EB C A orelse env m H₁ (seqQ Q (kRest C A rest env Q))) :
    EB C A (.If test body orelse pos :: rest) env m H Q :=
  EB.cons (ES.if h)
theorem EB.augName {x : Str} {p pos : Pos} {op : Operator} {value : Expr} (E : EnvOk env names cells) (hn : At names x .local)
    (h : LDN C A env x m H fun a H₁ => EV C A value env m H₁ fun b H₂ => OP2 C A (inplaceOp op) a b env.locals m H₂ fun c H₃ => ∃ m', Put m x c m' ∧ EB C A rest env m' H₃ Q) : EB C A (.AugAssign (.Name x p) op value pos :: rest) env m H Q :=
  EB.cons (ES.augName E hn h)
theorem EB.augSub {o i : Expr} {p pos : Pos} {op : Operator} {value : Expr}
    (h : EV C A o env m H fun a H₁ => EV C A i env m H₁ fun j H₂ => OP2 C A getItem a j env.locals m H₂ fun old H₃ => EV C A value env m H₃ fun v H₄ => OP2 C A (inplaceOp op) old v env.locals m H₄ fun new H₅ => ST C A a j new env.locals m H₅ fun H₆ => EB C A rest env m H₆ Q)
    (hi : autoParam (∀ ov iv new, augStore i ov iv new = (do holding [new, ov, iv] (setItem ov iv new); release [new, ov, iv] []; pure .next)) aIs) : EB C A (.AugAssign (.Subscript o i p) op value pos :: rest) env m H Q :=
  EB.cons (ES.augSub h hi)
theorem EB.assignSub {o i : Expr} {p pos : Pos} {value : Expr}
    (h : EV C A value env m H fun v H₁ => EV C A o env m H₁ fun a H₂ => EV C A i env m H₂ fun j H₃ => ST C A a j v env.locals m H₃ fun H₄ => EB C A rest env m H₄ Q)
    (hs : autoParam (swapsWith value (some (.Subscript o i p)) pos.line env = pure false) aRfl) : EB C A (.Assign [.Subscript o i p] value pos :: rest) env m H Q :=
  EB.cons (ES.assignSub h hs)
theorem EB.assignTup {elts : List Expr} {kk : Nat} {p pos : Pos} {value : Expr}
    (h : EV C A value env m H fun v H₁ => ASG C A (.Tuple elts kk p) v env m H₁ fun m' H₂ => EB C A rest env m' H₂ Q)
    (hs : autoParam (swapsWithSole [.Tuple elts kk p] value pos.line env = pure false) aRfl) (hw : autoParam (swappedStores [.Tuple elts kk p] value env = pure none) aRfl) : EB C A (.Assign [.Tuple elts kk p] value pos :: rest) env m H Q :=
  EB.cons (ES.assignTup h hs hw)
theorem EB.assignListComp {names' snames : List (Str × NameKind)} {cls : List (Str × Addr)} {locs : List Str} {scope : Scope} {target elt iter : Expr} {ifs : List Expr} {pos py spos : Pos} {y : Str} (E : EnvOk env names cells) (S : CompSt scope names cells snames names' cls locs) (hy : At names y .local)
    (hl : (py.line == pos.line) = true) (hn : (scope.names.any fun x => x.1 == y && (x.2 == .local || x.2 == .cell)) = false)
    (h : EV C A iter env m H fun v H₁ => LCQ C A target elt ifs env names' snames cls locs m v H₁ fun r H₂ => ∃ m', Put m y r m' ∧ EB C A rest env m' H₂ Q) (hs : autoParam (∀ x, foldedSetIterable iter env x = pure x) aI) :
    EB C A (.Assign [.Name y py] (.ListComp elt [⟨target, iter, ifs, 0⟩] scope pos) spos :: rest) env m H Q :=
  EB.cons (ES.assignListComp E S hy hl hn h hs)
theorem EB.assignDictComp {names' snames : List (Str × NameKind)} {cls : List (Str × Addr)} {locs : List Str} {scope : Scope} {target kx vx iter : Expr} {ifs : List Expr} {pos py spos : Pos} {y : Str} (E : EnvOk env names cells) (S : CompSt scope names cells snames names' cls locs) (hy : At names y .local)
    (hl : (py.line == pos.line) = true) (hn : (scope.names.any fun x => x.1 == y && (x.2 == .local || x.2 == .cell)) = false)
    (h : EV C A iter env m H fun v H₁ => DCQ C A target kx vx ifs env names' snames cls locs m v H₁ fun r H₂ => ∃ m', Put m y r m' ∧ EB C A rest env m' H₂ Q) (hs : autoParam (∀ x, foldedSetIterable iter env x = pure x) aI) :
    EB C A (.Assign [.Name y py] (.DictComp kx vx [⟨target, iter, ifs, 0⟩] scope pos) spos :: rest) env m H Q :=
  EB.cons (ES.assignDictComp E S hy hl hn h hs)

/- a loop's turn, and the rest behind it -/
theorem EB.for {target iter : Expr} {body : List Stmt} {pos : Pos} 
    (h : EV C A iter env m H fun v H₁ => ∃ (xs : List AV) (need : HS → Prop) (J : Nat → Loc → HS → Prop), ITERS C A v xs need ((env.locals, .ns m) :: H₁) ∧ J 0 m H₁ ∧ (∀ i m H, J i m H → need ((env.locals, .ns m) :: H)) ∧
      (∀ i x m H, xs[i]? = some x → J i m H → ASG C A target x env m H (kRest C A body env (LOOPQ (seqQ Q (kRest C A rest env Q)) (J (i + 1))))) ∧ (∀ m H, J xs.length m H → EB C A rest env m H Q))
    (hs : autoParam (∀ x, foldedSetIterable iter env x = pure x) aI) : EB C A (.For target iter body [] pos :: rest) env m H Q :=
  EB.cons (ES.for h hs)
theorem EB.while {test : Expr} {body : List Stmt} {pos : Pos} (J : Nat → Loc → HS → Prop) (n : Nat) (h0 : J n m H)
    (turn : ∀ n m H, J n m H → ET C A test env m H fun b H₁ => if b = true then EB C A body env m H₁ (LOOPQ (seqQ Q (kRest C A rest env Q)) fun m' H' => ∃ k, k < n ∧ J k m' H') else EB C A rest env m H₁ Q) : EB C A (.While test body [] pos :: rest) env m H Q :=
  EB.cons (ES.while J n h0 turn)

/- lists of the base heap -/
noncomputable def BaseL (C : Cx) (l : Addr) (xs : List AV) : Prop := ∃ vs, C.h₀.IsList l vs ∧ All2 xs vs.toList
theorem CB.lenBase {l : Addr} {xs : List AV} {Q : AV → HS → Prop} (hm : BaseL C l xs) (hsz : xs.length ≤ 1000) (h : Q (.int xs.length) H) : OPL C A (fun Vs => call (.builtin "len") Vs) [.ref l] L m H Q :=
  .one fun V i F s Qc E S k => by
    obtain ⟨_, rfl⟩ := i.inv
    obtain ⟨vs, ⟨o, e, r1, r2⟩, r⟩ := hm
    have hlen : vs.size = xs.length := by rw [← r.length]; simp
    exact PyProof.Rows.len_list ⟨o, S.keep _ _ e, r1, r2⟩ (by rw [hlen]; lia) (k _ _ s.heap _ ⟨_, H, rfl, by rw [hlen]; exact .int _ _, h⟩ S)
theorem SUB.base {value slice : Expr} {l : Addr} {xs : List AV} {i : Int} {x : AV} {Q : AV → HS → Prop} (hm : BaseL C l xs) (h0 : 0 ≤ i) (h1 : i < 2 ^ 63) (hx : xs[i.toNat]? = some x) (h : Q x H)
    (hs : autoParam (∀ u, subscripted slice false (.ref l) (.int i u) = operate [.ref l, .int i u] (getItem (.ref l) (.int i u))) aIU) : SUB C A value slice (.ref l) (.int i) L m H Q := by
  intro Va Vb ia ib F s Qc E S k; obtain ⟨_, rfl⟩ := ia.inv; obtain ⟨_, rfl⟩ := ib.inv
  obtain ⟨vs, ⟨o, e, r1, r2⟩, r⟩ := hm
  obtain ⟨v, hv, iv⟩ := r.get hx
  have hl : s.heap.IsList l vs := ⟨o, S.keep _ _ e, r1, r2⟩
  exact tail_any hl.typeIs slot_list_getitem.lookup (wpAny_getItem_list hl h0 h1 (by simpa using hv) (k v _ s.heap s.toks ⟨x, H, rfl, iv, h⟩ S)) (hs _)

/- calls of the program's defs -/
structure FnK (C : Cx) (f : Addr) (body : List Stmt) (names : List (Str × NameKind)) (ps : List Str) : Prop where
  ex : ∃ fd, Fn C f fd body names ∧ ∀ Vs : List Value, Vs.length = ps.length → bindArgs fd ⟨Vs, []⟩ = pure (ps.zip Vs)
/- a def whose code object's table grows -/
structure FnKX (C : Cx) (f : Addr) (body : List Stmt) (names : List (Str × NameKind)) (ps : List Str) (c P : Addr) (q : Str) : Prop where
  ex : ∃ fd, Fn C f fd body names ∧ (∀ Vs : List Value, Vs.length = ps.length → bindArgs fd ⟨Vs, []⟩ = pure (ps.zip Vs)) ∧ fd.code = .ref c ∧ fd.qualname = q
  hd : CodeHd C.h₀ c P
  bat : C.h₀.get? P = none → ∀ h : Heap, (∀ b o, C.h₀.get? b = some o → h.get? b = some o) → h.BuiltinsAt C.mg P
theorem FnK.call {f : Addr} {body : List Stmt} {ps : List Str} {args : List AV} {Q : AV → HS → Prop} {n : Nat} (X : FnK C f body names ps) (G : C.Ok) (R : Rm A (n + 1)) (locs : List Str) (hl : ps.length = args.length)
    (st : (names.map (·.1)).Nodup ∧ (∀ p ∈ names, p.2 ≠ .globalImplicit → p.1 ≠ "__debug__") ∧ locs.Nodup ∧ (cellNames names).Nodup)
    (h : ∀ env cs, cs.length = (cellNames names).length → EnvOk env names ((cellNames names).zip cs) →
      BNDA C A.in1 env (ps.zip args) (locs.map fun x => (x, .undef)) (newCells cs ++ (L, .ns m) :: H) fun m₁ H₁ => EB C (A.deeper env) body env m₁ H₁ (RET L m Q)) : OPL C A (fun Vs => call (.ref f) Vs) args L m H Q := by
  obtain ⟨fd, X, hp⟩ := X.ex
  intro Vs hV
  show TV C A (PySem.call (.ref f) Vs) L m H Q
  exact CK.tv <| enterC (locs := locs) (cl := []) (kws := []) G X.here X.st R Vs Vs hV (fun s _ => .of_eq (hp Vs (by rw [hV.length, hl]))) hl (by simpa using st) fun env cs hc E _ => h env cs hc (by simpa using E)
end

noncomputable def bodyOf (k : Nat) : List Stmt := match PySem.Challenge.pw_tl0053_01.main.body[k]? with
  | some (.FunctionDef _ _ body _ _ _ _ _ _ _) => body
  | _ => []

noncomputable abbrev nm_div2n1n : List (Str × NameKind) := [("a", .local), ("b", .local), ("n", .local), ("pad", .local), ("half_n", .local), ("mask", .local), ("b1", .local), ("b2", .local), ("q1", .local), ("r", .local), ("q2", .local), ("_DIV_LIMIT", .globalImplicit), ("divmod", .globalImplicit), ("_div3n2n", .globalImplicit)]
noncomputable abbrev nm_div3n2n : List (Str × NameKind) := [("a12", .local), ("a3", .local), ("b", .local), ("b1", .local), ("b2", .local), ("n", .local), ("q", .local), ("r", .local), ("_div2n1n", .globalImplicit)]
noncomputable abbrev nm_i2d_inner : List (Str × NameKind) := [("x", .local), ("L", .local), ("R", .local), ("mid", .local), ("shift", .local), ("upper", .local), ("lower", .local), ("a_digits", .free), ("inner", .free), ("n", .free)]
noncomputable abbrev nm_int2digits : List (Str × NameKind) := [("a", .local), ("n", .cell), ("a_digits", .cell), ("inner", .cell), ("len", .globalImplicit)]
noncomputable abbrev nm_d2i_inner : List (Str × NameKind) := [("L", .local), ("R", .local), ("mid", .local), ("shift", .local), ("digits", .free), ("inner", .free), ("n", .free)]
noncomputable abbrev nm_digits2int : List (Str × NameKind) := [("digits", .cell), ("n", .cell), ("inner", .cell), ("len", .globalImplicit)]
noncomputable abbrev nm_divmod_pos : List (Str × NameKind) := [("a", .local), ("b", .local), ("n", .local), ("a_digits", .local), ("r", .local), ("q_digits", .local), ("a_digit", .local), ("q_digit", .local), ("q", .local), ("_int2digits", .globalImplicit), ("reversed", .globalImplicit), ("_div2n1n", .globalImplicit), ("_digits2int", .globalImplicit)]
noncomputable abbrev nm_int_divmod : List (Str × NameKind) := [("a", .local), ("b", .local), ("q", .local), ("r", .local), ("ZeroDivisionError", .globalImplicit), ("int_divmod", .globalImplicit), ("_divmod_pos", .globalImplicit)]
noncomputable abbrev nm_rgb : List (Str × NameKind) := [("r", .local), ("g", .local), ("b", .local), ("maxc", .local), ("minc", .local), ("rangec", .local), ("v", .local), ("s", .local), ("rc", .local), ("gc", .local), ("bc", .local), ("h", .local), ("max", .globalImplicit), ("min", .globalImplicit)]
noncomputable abbrev nm_hsv : List (Str × NameKind) := [("h", .local), ("s", .local), ("v", .local), ("i", .local), ("f", .local), ("p", .local), ("q", .local), ("t", .local), ("int", .globalImplicit)]
noncomputable abbrev nm_quote : List (Str × NameKind) := [("data", .local), ("_twin_re_1", .globalImplicit), ("_twin_re_2", .globalImplicit), ("CRLF", .globalImplicit)]
noncomputable abbrev nm_init : List (Str × NameKind) := [("self", .local), ("headers", .local), ("k", .local), ("v", .local), ("type", .globalImplicit), ("list", .globalImplicit), ("TypeError", .globalImplicit), ("__debug__", .globalImplicit)]
noncomputable abbrev nm_conv : List (Str × NameKind) := [("self", .local), ("value", .local), ("name", .local), ("regex", .local), ("type", .globalImplicit), ("str", .globalImplicit), ("_name_disallowed_re", .globalImplicit), ("_value_disallowed_re", .globalImplicit), ("ValueError", .globalImplicit), ("AssertionError", .globalImplicit), ("repr", .globalImplicit)]
noncomputable abbrev nm_hlen : List (Str × NameKind) := [("self", .local), ("len", .globalImplicit)]
noncomputable abbrev nm_hset : List (Str × NameKind) := [("self", .local), ("name", .local), ("val", .local)]
noncomputable abbrev nm_hdel_c : List (Str × NameKind) := [(".0", .local), ("kv", .local), ("name", .free)]
noncomputable abbrev nm_hdel : List (Str × NameKind) := [("self", .local), ("name", .cell)]
noncomputable abbrev nm_hget_ : List (Str × NameKind) := [("self", .local), ("name", .local)]
noncomputable abbrev nm_hget : List (Str × NameKind) := [("self", .local), ("name", .local), ("default", .local), ("k", .local), ("v", .local)]
noncomputable abbrev nm_hkeys_c : List (Str × NameKind) := [(".0", .local), ("k", .local), ("v", .local)]
noncomputable abbrev nm_hkeys : List (Str × NameKind) := [("self", .local)]
noncomputable abbrev nm_hitems : List (Str × NameKind) := [("self", .local)]
noncomputable abbrev nm_hsetd : List (Str × NameKind) := [("self", .local), ("name", .local), ("value", .local), ("result", .local)]
noncomputable abbrev nm_cells : List (Str × NameKind) := [("script", .local), ("cells", .local), ("k", .local), ("range", .globalImplicit), ("min", .globalImplicit), ("len", .globalImplicit)]
noncomputable abbrev nm_steps : List (Str × NameKind) := [("n", .local), ("turn", .local), ("order", .local), ("kinds", .local), ("ups", .local), ("bag", .local), ("steps", .local), ("size", .local), ("range", .globalImplicit)]
noncomputable abbrev nm_heights : List (Str × NameKind) := [("first", .local), ("steps", .local), ("heights", .local), ("step", .local)]
noncomputable abbrev nm_word_c : List (Str × NameKind) := [(".0", .local), ("height", .local)]
noncomputable abbrev nm_word : List (Str × NameKind) := [("heights", .local)]
noncomputable abbrev nm_far : List (Str × NameKind) := [("word", .local), ("n", .local), ("far", .local), ("line", .local), ("k", .local), ("one", .local), ("place", .local), ("beside", .local), ("paint", .local), ("anew", .local), ("len", .globalImplicit), ("range", .globalImplicit), ("chr", .globalImplicit), ("ord", .globalImplicit)]
noncomputable abbrev nm_light_c : List (Str × NameKind) := [(".0", .local), ("part", .local), ("int", .globalImplicit)]
noncomputable abbrev nm_light : List (Str × NameKind) := [("dots", .local), ("hsv_to_rgb", .globalImplicit)]
noncomputable abbrev nm_winds_c : List (Str × NameKind) := [(".0", .local), ("k", .local), ("int_divmod", .globalImplicit), ("hues", .free)]
noncomputable abbrev nm_winds : List (Str × NameKind) := [("heights", .local), ("hues", .cell), ("height", .local), ("light", .local), ("hsv_to_rgb", .globalImplicit), ("int", .globalImplicit), ("rgb_to_hsv", .globalImplicit), ("sum", .globalImplicit), ("range", .globalImplicit), ("len", .globalImplicit)]
noncomputable abbrev nm_apart : List (Str × NameKind) := [("steps", .local), ("first", .local), ("word", .local), ("apart", .local), ("k", .local), ("range", .globalImplicit), ("len", .globalImplicit)]
noncomputable abbrev nm_best_c2 : List (Str × NameKind) := [(".0", .local), ("gap", .local), ("abs", .globalImplicit), ("turn", .free)]
noncomputable abbrev nm_best_c : List (Str × NameKind) := [(".0", .local), ("turn", .cell), ("sum", .globalImplicit), ("apart", .free)]
noncomputable abbrev nm_best : List (Str × NameKind) := [("apart", .cell), ("turns", .local), ("rest", .local), ("near", .local), ("int_divmod", .globalImplicit), ("sorted", .globalImplicit), ("len", .globalImplicit), ("min", .globalImplicit)]
noncomputable abbrev nm_book : List (Str × NameKind) := [("heights", .local), ("start", .local), ("book", .local), ("k", .local), ("place", .local), ("Headers", .globalImplicit), ("range", .globalImplicit), ("len", .globalImplicit)]
noncomputable abbrev nm_raise_c1 : List (Str × NameKind) := [(".0", .local), ("name", .local), ("row", .local)]
noncomputable abbrev nm_raise_c2 : List (Str × NameKind) := [(".0", .local), ("name", .local), ("row", .local)]
noncomputable abbrev nm_raise_c3 : List (Str × NameKind) := [(".0", .local), ("k", .local), ("by", .free), ("own", .free)]
noncomputable abbrev nm_raise : List (Str × NameKind) := [("book", .local), ("other", .local), ("name", .local), ("row", .local), ("rows", .local), ("tops", .local), ("place", .local), ("behind", .local), ("ahead", .local), ("own", .cell), ("by", .cell), ("lack", .local), ("paint", .local), ("len", .globalImplicit), ("_law_light", .globalImplicit), ("range", .globalImplicit), ("int", .globalImplicit), ("rgb_to_hsv", .globalImplicit), ("quotedata", .globalImplicit)]
noncomputable abbrev nm_meet_c : List (Str × NameKind) := [(".0", .local), ("k", .local), ("apart", .free), ("heights", .free), ("turn", .free)]
noncomputable abbrev nm_meet_d1 : List (Str × NameKind) := [(".0", .local), ("name", .local), ("row", .local)]
noncomputable abbrev nm_meet_d2 : List (Str × NameKind) := [(".0", .local), ("name", .local), ("row", .local)]
noncomputable abbrev nm_meet : List (Str × NameKind) := [("heights", .cell), ("apart", .cell), ("steps", .local), ("start", .local), ("n", .local), ("turn", .cell), ("k", .local), ("lows", .local), ("one", .local), ("two", .local), ("raised", .local), ("met", .local), ("top", .local), ("len", .globalImplicit), ("_law_best", .globalImplicit), ("range", .globalImplicit), ("_law_book", .globalImplicit), ("_law_raise", .globalImplicit), ("max", .globalImplicit)]
noncomputable abbrev nm_law : List (Str × NameKind) := [("script", .local), ("cells", .local), ("n", .local), ("steps", .local), ("heights", .local), ("aims", .local), ("aim", .local), ("far", .local), ("winds", .local), ("loose", .local), ("other", .local), ("_law_cells", .globalImplicit), ("_law_steps", .globalImplicit), ("_law_heights", .globalImplicit), ("_law_word", .globalImplicit), ("_law_far", .globalImplicit), ("_law_winds", .globalImplicit), ("list", .globalImplicit), ("_law_best", .globalImplicit), ("_law_apart", .globalImplicit), ("_law_meet", .globalImplicit)]
noncomputable abbrev GL : Loc := (Str.ofString "len", AV.bi "len") :: (Str.ofString "range", AV.ty "range") :: (Str.ofString "min", AV.bi "min") :: (Str.ofString "max", AV.bi "max") :: (Str.ofString "int", AV.ty "int") :: (Str.ofString "sum", AV.bi "sum") :: (Str.ofString "sorted", AV.bi "sorted") :: (Str.ofString "abs", AV.bi "abs") :: (Str.ofString "list", AV.ty "list") :: (Str.ofString "ord", AV.bi "ord") :: (Str.ofString "chr", AV.bi "chr") :: (Str.ofString "divmod", AV.bi "divmod") :: (Str.ofString "reversed", AV.ty "reversed") :: (Str.ofString "type", AV.ty "type") :: (Str.ofString "str", AV.ty "str") :: (Str.ofString "_DIV_LIMIT", AV.int 4000) :: (Str.ofString "CRLF", AV.str ⟨#[13, 10]⟩) :: (Str.ofString "_div2n1n", AV.ref 45) :: (Str.ofString "_div3n2n", AV.ref 52) :: (Str.ofString "_int2digits", AV.ref 59) :: (Str.ofString "_digits2int", AV.ref 66) :: (Str.ofString "_divmod_pos", AV.ref 73) :: (Str.ofString "int_divmod", AV.ref 80) :: (Str.ofString "rgb_to_hsv", AV.ref 87) :: (Str.ofString "hsv_to_rgb", AV.ref 94) :: (Str.ofString "_twin_re_1", AV.ref 99) :: (Str.ofString "_twin_re_2", AV.ref 104) :: (Str.ofString "quotedata", AV.ref 111) :: (Str.ofString "_name_disallowed_re", AV.ref 116) :: (Str.ofString "_value_disallowed_re", AV.ref 121) :: (Str.ofString "Headers", AV.ref 244) :: (Str.ofString "_law_cells", AV.ref 255) :: (Str.ofString "_law_steps", AV.ref 262) :: (Str.ofString "_law_heights", AV.ref 269) :: (Str.ofString "_law_word", AV.ref 274) :: (Str.ofString "_law_far", AV.ref 281) :: (Str.ofString "_law_light", AV.ref 286) :: (Str.ofString "_law_winds", AV.ref 291) :: (Str.ofString "_law_apart", AV.ref 298) :: (Str.ofString "_law_best", AV.ref 303) :: (Str.ofString "_law_book", AV.ref 310) :: (Str.ofString "_law_raise", AV.ref 315) :: (Str.ofString "_law_meet", AV.ref 320) :: []
/- what the program has made of itself -/
structure KX (C : Cx) : Prop where
  G : C.Ok
  gl : C.gl = GL
  f_div2n1n : FnK C 45 (bodyOf 4) nm_div2n1n ["a", "b", "n"]
  f_div3n2n : FnK C 52 (bodyOf 5) nm_div3n2n ["a12", "a3", "b", "b1", "b2", "n"]
  f_int2digits : FnKX C 59 (bodyOf 6) nm_int2digits ["a", "n"] 58 54 "_int2digits"
  f_digits2int : FnKX C 66 (bodyOf 7) nm_digits2int ["digits", "n"] 65 61 "_digits2int"
  f_divmod_pos : FnK C 73 (bodyOf 8) nm_divmod_pos ["a", "b"]
  f_int_divmod : FnK C 80 (bodyOf 9) nm_int_divmod ["a", "b"]
  f_rgb : FnK C 87 (bodyOf 11) nm_rgb ["r", "g", "b"]
  f_hsv : FnK C 94 (bodyOf 12) nm_hsv ["h", "s", "v"]
  f_quote : FnK C 111 (bodyOf 17) nm_quote ["data"]
  f_cells : FnK C 255 (bodyOf 23) nm_cells ["script"]
  f_steps : FnK C 262 (bodyOf 24) nm_steps ["n", "turn", "order"]
  f_heights : FnK C 269 (bodyOf 25) nm_heights ["first", "steps"]
  f_word : FnK C 274 (bodyOf 26) nm_word ["heights"]
  f_far : FnK C 281 (bodyOf 27) nm_far ["word"]
  f_light : FnK C 286 (bodyOf 28) nm_light ["dots"]
  f_winds : FnK C 291 (bodyOf 29) nm_winds ["heights"]
  f_apart : FnK C 298 (bodyOf 30) nm_apart ["steps", "first", "word"]
  f_best : FnK C 303 (bodyOf 31) nm_best ["apart"]
  f_book : FnK C 310 (bodyOf 32) nm_book ["heights", "start"]
  f_raise : FnK C 315 (bodyOf 33) nm_raise ["book", "other"]
  f_meet : FnK C 320 (bodyOf 34) nm_meet ["heights", "apart", "steps", "start"]

section
variable {C : Cx} {A : Around} {env : Env} {names : List (Str × NameKind)} {cells : List (Str × Addr)} {m : Loc} {H : HS}
theorem EV.globK {x : Str} {pos : Pos} {v : AV} {Q : AV → HS → Prop} (K : KX C) (E : EnvOk env names cells) (hn : At names x .globalImplicit) (hg : At GL x v) (h : Q v H) : EV C A (.Name x pos) env m H Q := EV.glob K.G E hn (K.gl ▸ hg) h
end

theorem ifT {b : Bool} {P R : Prop} (e : b = true) (h : P) : if b = true then P else R := by rw [if_pos e]; exact h
theorem ifF {b : Bool} {P R : Prop} (e : b = false) (h : R) : if b = true then P else R := by subst e; exact h
theorem exPut {m m' : Loc} {x : Str} {v : AV} {P : Loc → Prop} (hp : Put m x v m') (h : P m') : ∃ m', Put m x v m' ∧ P m' := ⟨m', hp, h⟩
theorem exPutE {C : Cx} {A : Around} {rest : List Stmt} {env : Env} {m m' : Loc} {H : HS} {x : Str} {v : AV} {Q : FL → Loc → HS → Prop} (hp : Put m x v m') (h : EB C A rest env m' H Q) : ∃ m', Put m x v m' ∧ EB C A rest env m' H Q := ⟨m', hp, h⟩
theorem exUpd {H H' : HS} {c : Addr} {u v : AO} {P : HS → Prop} (hp : Mine.Upd H c u v H') (h : P H') : ∃ H', Mine.Upd H c u v H' ∧ P H' := ⟨H', hp, h⟩

/- a list with one more in it -/
inductive Ext : HS → Addr × AO → HS → Prop where
  | head {p r} : Ext (p :: r) p r
  | tail {q p r r'} : Ext r p r' → Ext (q :: r) p (q :: r')
theorem Ext.perm {H r : HS} {p : Addr × AO} (e : Ext H p r) : (p :: r).Perm H := by
  induction e with
  | head => exact List.Perm.refl _
  | @tail q p r r' _ ih => exact (List.Perm.swap q p r').trans (List.Perm.cons _ ih)
theorem Sub.ext {H r H' : HS} {p : Addr × AO} (e : Ext H p r) (h : Sub H' r) : Sub (p :: H') H := Sub.trans (Sub.cons (p := p) h) (Sub.of_perm e.perm)
theorem Sub.drop {r H' : HS} {p : Addr × AO} (h : Sub H' r) : Sub H' (p :: r) := Sub.trans h (Sub.of_sublist (List.sublist_cons_self ..))

theorem Sub.drop1 {r : HS} {p : Addr × AO} : Sub r (p :: r) := Sub.drop Sub.refl

section
variable {C : Cx} {A : Around} {L : Addr} {m : Loc} {H : HS}
theorem TL.mono {t : Sem (List Value)} {Q Q' : List AV → HS → Prop} (h : TL C A t L m H Q) (k : ∀ v H', Q v H' → Q' v H') : TL C A t L m H Q' :=
  Tr.mono h fun _ _ ⟨v, H'', e, i, q⟩ => ⟨v, H'', e, i, k v H'' q⟩
theorem small01 {n : Nat} (h : n ≤ 1000) : Builtin.Range.small 0 (n : Int) 1 = true := small_one (by decide) (by decide) (by lia) (by lia)
theorem size01 (n : Nat) : Builtin.Range.rangeSize 0 (n : Int) 1 = (n : Int) := by
  simp [Builtin.Range.rangeSize]; lia
theorem rangeL_get {a c : Int} {n i : Nat} {x : AV} (h : (rangeL a c n)[i]? = some x) : i < n ∧ x = .int (a + i * c) := by
  unfold rangeL at h
  rw [List.getElem?_map, Option.map_eq_some_iff] at h
  obtain ⟨j, hj, e⟩ := h
  obtain ⟨hi, e2⟩ := List.getElem?_eq_some_iff.mp hj
  simp at hi e2; subst e2; exact ⟨hi, e.symm⟩
theorem rangeL_len {a c : Int} {n : Nat} : (rangeL a c n).length = n := by simp [rangeL]
/- a loop over a range from nought on -/
theorem forR {S : (Nat → Loc → HS → Prop) → Nat → AV → Loc → HS → Prop} {D : Loc → HS → Prop} {r : Addr} {k : Int} (n : Nat) (J : Nat → Loc → HS → Prop) (hk : k = (n : Int)) (hn : n ≤ 1000) (hh : A.handled = none)
    (h0 : J 0 m ((r, .rng 0 k 1) :: H)) (step : ∀ i m H, i < n → J i m H → S J i (.int i) m H) (done : ∀ m H, J n m H → D m H) :
    ∃ (xs : List AV) (need : HS → Prop) (J : Nat → Loc → HS → Prop), ITERS C A (.ref r) xs need ((L, .ns m) :: (r, .rng 0 k 1) :: H) ∧ J 0 m ((r, .rng 0 k 1) :: H) ∧ (∀ i m H, J i m H → need ((L, .ns m) :: H)) ∧
      (∀ i x m H, xs[i]? = some x → J i m H → S J i x m H) ∧ ∀ m H, J xs.length m H → D m H := by
  subst hk
  refine ⟨_, _, J, ITERS.range hh (.tail _ (.head _)) (small01 hn) (size01 n), h0, fun _ _ _ _ => trivial, fun i x m H hx hj => ?_, fun m H hj => done m H (by rw [rangeL_len] at hj; exact hj)⟩
  obtain ⟨hi, e⟩ := rangeL_get hx
  have e : x = .int i := by rw [e]; congr 1; lia
  subst e
  exact step i m H hi hj
/- over a list -/
theorem forL {S : (Nat → Loc → HS → Prop) → Nat → AV → Loc → HS → Prop} {D : Loc → HS → Prop} {l : Addr} {xs : List AV} (J : Nat → Loc → HS → Prop) (hm : (l, AO.list xs) ∈ H) (hh : A.handled = none)
    (h0 : J 0 m H) (hneed : ∀ i m H, J i m H → (l, AO.list xs) ∈ H) (step : ∀ i x m H, xs[i]? = some x → J i m H → S J i x m H) (done : ∀ m H, J xs.length m H → D m H) :
    ∃ (xs : List AV) (need : HS → Prop) (J : Nat → Loc → HS → Prop), ITERS C A (.ref l) xs need ((L, .ns m) :: H) ∧ J 0 m H ∧ (∀ i m H, J i m H → need ((L, .ns m) :: H)) ∧
      (∀ i x m H, xs[i]? = some x → J i m H → S J i x m H) ∧ ∀ m H, J xs.length m H → D m H :=
  ⟨xs, _, J, ITERS.list hh (.tail _ hm), h0, fun i m H hj => .tail _ (hneed i m H hj), step, done⟩
/- over any range -/
theorem forR3 {S : (Nat → Loc → HS → Prop) → Nat → AV → Loc → HS → Prop} {D : Loc → HS → Prop} {r : Addr} {a b c : Int} (n : Nat) (J : Nat → Loc → HS → Prop) (hsm : Builtin.Range.small a b c = true) (hn : Builtin.Range.rangeSize a b c = (n : Int)) (hh : A.handled = none)
    (h0 : J 0 m ((r, .rng a b c) :: H)) (step : ∀ i m H, i < n → J i m H → S J i (.int (a + i * c)) m H) (done : ∀ m H, J n m H → D m H) :
    ∃ (xs : List AV) (need : HS → Prop) (J : Nat → Loc → HS → Prop), ITERS C A (.ref r) xs need ((L, .ns m) :: (r, .rng a b c) :: H) ∧ J 0 m ((r, .rng a b c) :: H) ∧ (∀ i m H, J i m H → need ((L, .ns m) :: H)) ∧
      (∀ i x m H, xs[i]? = some x → J i m H → S J i x m H) ∧ ∀ m H, J xs.length m H → D m H := by
  refine ⟨_, _, J, ITERS.range hh (.tail _ (.head _)) hsm hn, h0, fun _ _ _ _ => trivial, fun i x m H hx hj => ?_, fun m H hj => done m H (by rw [rangeL_len] at hj; exact hj)⟩
  obtain ⟨hi, e⟩ := rangeL_get hx
  subst e
  exact step i m H hi hj
theorem EV.callBG {env : Env} {names : List (Str × NameKind)} {cells : List (Str × Addr)} {f : Str} {p pos : Pos} {e : Expr} {rest : List Expr} {id : String} {Q : AV → HS → Prop} (K : KX C) (E : EnvOk env names cells) (hn : At names f .globalImplicit) (hg : At GL f (.bi id))
    (h : EL C A pos (e :: rest) env m H (kOpl C A (fun Vs => call (.builtin id) Vs) env.locals m Q)) (he : starEach (e :: rest) env = (false, eval e env) :: starEach rest env) (hplain : (backTo pos (starEach rest env)).any (·.1) = false) : EV C A (.Call (.Name f p) (e :: rest) [] pos) env m H Q :=
  EV.callB (EV.globK K E hn hg ⟨_, rfl, h⟩) he hplain
theorem EV.callTG {env : Env} {names : List (Str × NameKind)} {cells : List (Str × Addr)} {f : Str} {p pos : Pos} {e : Expr} {rest : List Expr} {id : String} {Q : AV → HS → Prop} (K : KX C) (E : EnvOk env names cells) (hn : At names f .globalImplicit) (hg : At GL f (.ty id))
    (h : EL C A pos (e :: rest) env m H (kOpl C A (fun Vs => call (.type id) Vs) env.locals m Q)) (he : starEach (e :: rest) env = (false, eval e env) :: starEach rest env) (hplain : (backTo pos (starEach rest env)).any (·.1) = false) : EV C A (.Call (.Name f p) (e :: rest) [] pos) env m H Q :=
  EV.callT (EV.globK K E hn hg ⟨_, rfl, h⟩) he hplain
theorem EV.callK {env : Env} {f : Str} {p pos : Pos} {e : Expr} {rest : List Expr} {a : Addr} {body : List Stmt} {names : List (Str × NameKind)} {ps : List Str} {Q : AV → HS → Prop} (X : FnK C a body names ps)
    (h : EV C A (.Name f p) env m H (kCallK C A a pos (e :: rest) env m Q))
    (he : autoParam (starEach (e :: rest) env = (false, eval e env) :: starEach rest env) aRfl) : EV C A (.Call (.Name f p) (e :: rest) [] pos) env m H Q := by
  obtain ⟨fd, X, _⟩ := X.ex
  obtain ⟨o, ho, hd⟩ := X.ob
  exact EV.callF (TV.mono h fun fv H₁ ⟨e, q⟩ => ⟨a, o, fd, e, hd, TL.mono q fun as H₂ q => ⟨fun F h S => S.keep _ _ ho, q⟩⟩) he
end

section
variable {C : Cx} {A : Around} {env : Env} {L : Addr} {m : Loc} {H : HS} {Q : AV → HS → Prop}
/- a call of a method, as it is read -/
noncomputable def MC (o : Expr) (name : Str) (apos pos : Pos) (args : List Expr) (env : Env) (pl : Sem Bool) : Prop :=
  eval (.Call (.Attribute o name apos) args [] pos) env = (do let ov ← eval o env; standAt apos.atName; let (f, first) ← holding [ov] (getMethod ov name pl); callWith pos f first (backTo pos (starEach args env)) [])
theorem EL.one {pos : Pos} {e : Expr} {Q : List AV → HS → Prop} (h : EV C A e env m H fun a H₁ => Q [a] H₁) (he : autoParam (starEach [e] env = (false, eval e env) :: starEach [] env) aRfl) : EL C A pos [e] env m H Q :=
  EL.cons (TV.mono h fun a H₁ q => EL.nil q) he
theorem EV.append {o x : Expr} {apos pos : Pos} {pl : Sem Bool} (h : EV C A o env m H fun a H₁ => ∃ l xs₀, a = .ref l ∧ (l, AO.list xs₀) ∈ H₁ ∧ EV C A x env m H₁ fun v H₂ => ∃ xs H₃, Mine.Upd H₂ l (.list xs) (.list (xs ++ [v])) H₃ ∧ xs.length ≤ 1000 ∧ Q .none H₃)
    (he : autoParam (starEach [x] env = (false, eval x env) :: starEach [] env) aRfl) (hm : autoParam (MC o "append" apos pos [x] env pl) aRfl) : EV C A (.Call (.Attribute o "append" apos) [x] [] pos) env m H Q :=
  EV.meth "list" "list.append" PySem.F.plainAttrs_list PySem.F.slot_list_append type_list_append (TV.mono h fun a H₁ ⟨l, xs₀, e, hm, q⟩ => by
    subst e; exact ⟨.list hm, EL.one (TV.mono q fun v H₂ ⟨xs, H₃, u, hsz, q⟩ => CB.append u hsz q) he⟩) hm he
theorem EV.popAt {o x : Expr} {apos pos : Pos} {pl : Sem Bool} (h : EV C A o env m H fun a H₁ => ∃ l xs₀, a = .ref l ∧ (l, AO.list xs₀) ∈ H₁ ∧ EV C A x env m H₁ fun v H₂ => ∃ i xs j y H₃, v = .int i ∧ Mine.Upd H₂ l (.list xs) (.list (xs.eraseIdx j)) H₃ ∧ xs.length ≤ 1000 ∧ (0 ≤ i ∧ i < 2 ^ 63) ∧ seqIndex? i xs.length = some j ∧ xs[j]? = some y ∧ Q y H₃)
    (he : autoParam (starEach [x] env = (false, eval x env) :: starEach [] env) aRfl) (hm : autoParam (MC o "pop" apos pos [x] env pl) aRfl) : EV C A (.Call (.Attribute o "pop" apos) [x] [] pos) env m H Q :=
  EV.meth "list" "list.pop" PySem.F.plainAttrs_list PySem.F.slot_list_pop PySem.F.type_list_pop (TV.mono h fun a H₁ ⟨l, xs₀, e, hm, q⟩ => by
    subst e; exact ⟨.list hm, EL.one (TV.mono q fun v H₂ ⟨i, xs, j, y, H₃, e, u, hsz, hi, hj, hy, q⟩ => e ▸ CB.popAt u hsz hi hj hy q) he⟩) hm he
theorem EV.reverse {o : Expr} {apos pos : Pos} {pl : Sem Bool} (h : EV C A o env m H fun a H₁ => ∃ l xs H₂, a = .ref l ∧ Mine.Upd H₁ l (.list xs) (.list xs.reverse) H₂ ∧ xs.length ≤ 1000 ∧ Q .none H₂) (hm : autoParam (MC o "reverse" apos pos [] env pl) aRfl) : EV C A (.Call (.Attribute o "reverse" apos) [] [] pos) env m H Q :=
  EV.meth0 "list" "list.reverse" PySem.F.plainAttrs_list PySem.F.slot_list_reverse PySem.F.type_list_reverse (TV.mono h fun a H₁ ⟨l, xs, H₂, e, u, hsz, q⟩ => by
    subst e; exact ⟨.list u.mem, CB.reverse u hsz q⟩) hm
theorem EV.join {o x : Expr} {apos pos : Pos} {pl : Sem Bool} (h : EV C A o env m H fun a H₁ => ∃ s, a = .str s ∧ EV C A x env m H₁ fun v H₂ => ∃ l ys, v = .ref l ∧ (l, AO.list (ys.map .str)) ∈ H₂ ∧ (ys.map (·.length)).sum + ys.length * s.length ≤ 16777216 ∧ Q (.str (Txt.join s ys)) H₂)
    (he : autoParam (starEach [x] env = (false, eval x env) :: starEach [] env) aRfl) (hm : autoParam (MC o "join" apos pos [x] env pl) aRfl) : EV C A (.Call (.Attribute o "join" apos) [x] [] pos) env m H Q :=
  EV.meth "str" "str.join" PySem.F.plainAttrs_str PySem.F.slot_str_join PySem.F.type_str_join (TV.mono h fun a H₁ ⟨s, e, q⟩ => by
    subst e; exact ⟨.str, EL.one (TV.mono q fun v H₂ ⟨l, ys, e, hm, hsz, q⟩ => e ▸ CB.join hm hsz q) he⟩) hm he
theorem EV.index {o x : Expr} {apos pos : Pos} {pl : Sem Bool} (h : EV C A o env m H fun a H₁ => ∃ s, a = .str s ∧ EV C A x env m H₁ fun v H₂ => ∃ y i rest, v = .str y ∧ Builtin.Str.occurrences s y 0 s.length 1 = i :: rest ∧ Q (.int i) H₂)
    (he : autoParam (starEach [x] env = (false, eval x env) :: starEach [] env) aRfl) (hm : autoParam (MC o "index" apos pos [x] env pl) aRfl) : EV C A (.Call (.Attribute o "index" apos) [x] [] pos) env m H Q :=
  EV.meth "str" "str.index" PySem.F.plainAttrs_str PySem.F.slot_str_index PySem.F.type_str_index (TV.mono h fun a H₁ ⟨s, e, q⟩ => by
    subst e; exact ⟨.str, EL.one (TV.mono q fun v H₂ ⟨y, i, rest, e, ho, q⟩ => e ▸ CB.index ho q) he⟩) hm he
theorem EV.lower {o : Expr} {apos pos : Pos} {pl : Sem Bool} (h : EV C A o env m H fun a H₁ => ∃ s y, a = .str s ∧ Txt.lower s = y ∧ Builtin.Str.tooLong y.length = false ∧ Q (.str y) H₁) (hm : autoParam (MC o "lower" apos pos [] env pl) aRfl) : EV C A (.Call (.Attribute o "lower" apos) [] [] pos) env m H Q :=
  EV.meth0 "str" "str.lower" PySem.F.plainAttrs_str PySem.F.slot_str_lower PySem.F.type_str_lower (TV.mono h fun a H₁ ⟨s, y, e, e2, e3, q⟩ => by
    subst e; exact ⟨.str, CB.lower e2 e3 q⟩) hm
theorem EV.swapcase {o : Expr} {apos pos : Pos} {pl : Sem Bool} (h : EV C A o env m H fun a H₁ => ∃ s y, a = .str s ∧ Txt.swapcase s = y ∧ Builtin.Str.tooLong y.length = false ∧ Q (.str y) H₁) (hm : autoParam (MC o "swapcase" apos pos [] env pl) aRfl) : EV C A (.Call (.Attribute o "swapcase" apos) [] [] pos) env m H Q :=
  EV.meth0 "str" "str.swapcase" PySem.F.plainAttrs_str PySem.F.slot_str_swapcase PySem.F.type_str_swapcase (TV.mono h fun a H₁ ⟨s, y, e, e2, e3, q⟩ => by
    subst e; exact ⟨.str, CB.swapcase e2 e3 q⟩) hm
theorem EV.bitLength {o : Expr} {apos pos : Pos} {pl : Sem Bool} (h : EV C A o env m H fun a H₁ => ∃ i, a = .int i ∧ Q (.int (Builtin.Int.intBits i)) H₁) (hm : autoParam (MC o "bit_length" apos pos [] env pl) aRfl) : EV C A (.Call (.Attribute o "bit_length" apos) [] [] pos) env m H Q :=
  EV.meth0 "int" "int.bit_length" PySem.F.plainAttrs_int PySem.F.slot_int_bit_length PySem.F.type_int_bit_length (TV.mono h fun a H₁ ⟨i, e, q⟩ => by
    subst e; exact ⟨.int, CB.bitLength q⟩) hm
end

theorem Sub.fade {L : Addr} {m : Loc} {locs : List Str} {H : HS} (e : m.map (·.1) = locs) : Sub ((L, .ns (locs.map fun x => (x, .undef))) :: H) ((L, .ns m) :: H) := by
  intro F C h S
  refine ⟨S.keep, S.nd, fun p hp => ?_⟩
  rcases List.mem_cons.mp hp with rfl | hp
  · obtain ⟨e1, o, e2, f, es, ep, e3, e4, e5, K⟩ := S.at_ (L, .ns m) (.head _)
    exact ⟨e1, o, e2, f, es, ep, e3, e4, e5, known_undef (e ▸ K.1) f⟩
  · exact S.at_ p (.tail _ hp)

section
variable {C : Cx} {A : Around} {env : Env} {names names' snames : List (Str × NameKind)} {cells cls : List (Str × Addr)} {locs : List Str} {L : Addr} {m : Loc} {H H₁ : HS} {Q : AV → HS → Prop}
theorem compSt0 {scope : Scope} (hk : scope.kind = .function) (hs : scope.names = snames) (hr : snames.map relab = snames) (hd : (snames.map (·.1)).Nodup ∧ (∀ p ∈ snames, p.2 ≠ .globalImplicit → p.1 ≠ "__debug__") ∧ (∀ p ∈ snames, p.2 ≠ .free) ∧ locs.Nodup) : CompSt scope names cells snames snames [] locs :=
  ⟨hk, hs, hr, hd.1, hd.2.1, fun p hp h => absurd h (hd.2.2.1 p hp), (fun p hp => nomatch hp), hd.2.2.2⟩
theorem compSt1 {scope : Scope} (hk : scope.kind = .function) (hs : scope.names = snames) (hr : snames.map relab = names') (hd : (snames.map (·.1)).Nodup ∧ (∀ p ∈ snames, p.2 ≠ .globalImplicit → p.1 ≠ "__debug__") ∧ locs.Nodup)
    (hf : ∀ p ∈ snames, p.2 = .free → p.1 ∈ cls.map (·.1)) (hc : ∀ q ∈ cls, At names q.1 .cell ∧ At cells q.1 q.2 ∧ (q.1, NameKind.free) ∈ snames) : CompSt scope names cells snames names' cls locs :=
  ⟨hk, hs, hr, hd.1, hd.2.1, (by
    intro p hp h
    obtain ⟨q, hq, e⟩ := List.mem_map.mp (hf p hp h)
    rw [← e]; exact ⟨(hc q hq).1, _, (hc q hq).2.1⟩), fun q hq => ⟨(hc q hq).2.1, (hc q hq).2.2⟩, hd.2.2⟩
theorem LCQ.pure {target elt : Expr} {v : AV} {xs : List AV} {need : HS → Prop} (g : List AV) (it : ITERS C A v xs need ((env.locals, .ns m) :: H₁)) (hneed : ∀ cenv : Env, need ((cenv.locals, .ns (locs.map fun x => (x, .undef))) :: H₁)) (hlen : g.length = xs.length) (hsz : xs.length ≤ 1000)
    (h0 : cellNames snames = [])
    (step : ∀ cenv, EnvOk cenv names' cls → ∀ (i : Nat) (x y : AV), xs[i]? = some x → g[i]? = some y → ASG C A target x cenv (locs.map fun x => (x, .undef)) H₁ fun m₁ H₂ => EV C A elt cenv m₁ H₂ fun y' H₃ => y' = y ∧ m₁.map (·.1) = locs ∧ Sub H₁ H₃)
    (fin : ∀ a, Q (.ref a) ((a, .list g) :: H₁)) : LCQ C A target elt [] env names' snames cls locs m v H₁ Q := by
  refine ⟨xs, need, it, hsz, fun cenv cs hc E => ⟨fun i ys H => ys = g.take i ∧ H = H₁, ?_, ?_, ?_, ?_⟩⟩
  · rw [h0] at hc; have : cs = [] := List.eq_nil_of_length_eq_zero hc
    subst this; exact ⟨rfl, rfl⟩
  · rintro i ys H ⟨_, rfl⟩; exact hneed cenv
  · rintro i x ys H hx ⟨rfl, rfl⟩
    have hi : i < xs.length := (List.getElem?_eq_some_iff.mp hx).1
    have hy : g[i]? = some g[i] := by simp
    have E' : EnvOk cenv names' cls := by rw [h0] at E; simpa using E
    intro V iV
    refine Tr.mono (step cenv E' i x _ hx hy V iV) fun _ H' ⟨m₁, H₂, e, q⟩ => ⟨m₁, H₂, e, ?_⟩
    show EV C A elt cenv m₁ H₂ _
    refine TV.mono q fun y' H₃ ⟨e1, e2, e3⟩ => ⟨H, Sub.trans (Sub.fade e2) (Sub.cons e3), ?_, rfl⟩
    subst e1
    rw [List.take_succ_eq_append_getElem]
  · rintro ys H ⟨rfl, rfl⟩ a
    exact ⟨_, Sub.refl, by rw [← hlen, List.take_length]; exact fin a⟩
theorem EB.sub {A : Around} {b : List Stmt} {H' : HS} {Q : FL → Loc → HS → Prop} (e : Sub H' H) (h : EB C A b env m H' Q) : EB C A b env m H Q := Tr.pre (Sub.cons e) h
theorem EV.subH {A : Around} {b : Expr} {H' : HS} {Q : AV → HS → Prop} (e : Sub H' H) (h : EV C A b env m H' Q) : EV C A b env m H Q := Tr.pre (Sub.cons e) h
noncomputable def notSlice : Expr → Bool
  | .Slice _ _ _ _ => false
  | _ => true
theorem EV.sub' {A : Around} {value slice : Expr} {pos : Pos} {Q : AV → HS → Prop} (h : EV C A value env m H (kSub C A value slice env m Q)) (hns : notSlice slice = true) : EV C A (.Subscript value slice pos) env m H Q := EV.sub h
end

/- strs as lists -/
noncomputable def ofL (l : List Nat) : Str := ⟨l.toArray⟩
theorem ofL_len (l : List Nat) : (ofL l).length = l.length := by show l.toArray.size = _; simp
theorem ofL_inj {a b : List Nat} : ofL a = ofL b ↔ a = b := ⟨fun h => by have := congrArg (fun s : Str => s.cps.toList) h; simpa [ofL] using this, fun h => h ▸ rfl⟩
theorem ofL_beq (a b : List Nat) : (ofL a == ofL b) = (a == b) := by
  rw [Bool.eq_iff_iff, beq_iff_eq, beq_iff_eq]; exact ofL_inj
theorem ofL_app (a b : List Nat) : ofL a ++ ofL b = ofL (a ++ b) := by
  show (⟨a.toArray ++ b.toArray⟩ : Str) = ⟨(a ++ b).toArray⟩
  simp
set_option tactic.hygienic true in
theorem pickS_ab {l : List Nat} {lo hi : Option Int} {a b : Nat} (e : Builtin.Str.strSliceIndices lo hi 1 l.length = sliceRange (a : Int) (b : Int) 1) (h1 : a ≤ b) (h2 : b ≤ l.length) : pickS (ofL l) lo hi = ofL ((l.drop a).take (b - a)) := by
  unfold pickS
  rw [ofL_len, e, sliceRange_one]
  have hr : ((List.range (b - a)).map (a + ·)).filterMap ((ofL l).cps[·]?) = (l.drop a).take (b - a) := by
    have := PySem.pick_run (ofL l).cps a (b - a)
    simpa [ofL] using this
  rw [hr]
  split
  · rename_i hc
    have hc : b - a = l.length := by simpa using hc
    have ha : a = 0 := by lia
    subst ha
    rw [hc]; simp
  · rfl
theorem pickS_to {l : List Nat} {k : Nat} (h : k ≤ l.length) : pickS (ofL l) none (some (k : Int)) = ofL (l.take k) := by
  rw [pickS_ab (a := 0) (b := k) ?_ (Nat.zero_le _) h]
  · simp
  · unfold Builtin.Str.strSliceIndices
    simp only [show ((1 : Int) > 0) by decide, if_true]
    rw [if_neg (by lia), show max (0 : Int) (min (k : Int) (l.length : Int)) = (k : Int) by lia]; rfl
theorem pickS_from {l : List Nat} {k : Nat} (h : k ≤ l.length) : pickS (ofL l) (some (k : Int)) none = ofL (l.drop k) := by
  rw [pickS_ab (a := k) (b := l.length) ?_ h (Nat.le_refl _)]
  · rw [List.take_of_length_le (by simp)]
  · unfold Builtin.Str.strSliceIndices
    simp only [show ((1 : Int) > 0) by decide, if_true]
    rw [if_neg (by lia), show max (0 : Int) (min (k : Int) (l.length : Int)) = (k : Int) by lia]
theorem pickS_two {l : List Nat} {k : Nat} (h : k + 2 ≤ l.length) : pickS (ofL l) (some (k : Int)) (some ((k : Int) + 2)) = ofL ((l.drop k).take 2) := by
  rw [pickS_ab (a := k) (b := k + 2) ?_ (by lia) h]
  · rw [show k + 2 - k = 2 by lia]
  · unfold Builtin.Str.strSliceIndices
    simp only [show ((1 : Int) > 0) by decide, if_true]
    rw [if_neg (by lia), if_neg (by lia), show max (0 : Int) (min (k : Int) (l.length : Int)) = (k : Int) by lia, show max (0 : Int) (min ((k : Int) + 2) (l.length : Int)) = ((k + 2 : Nat) : Int) by lia]
theorem pickS_last {l : List Nat} (h : 1 ≤ l.length) : pickS (ofL l) none (some (-1)) = ofL (l.take (l.length - 1)) := by
  rw [pickS_ab (a := 0) (b := l.length - 1) ?_ (Nat.zero_le _) (by omega)]
  · simp
  · unfold Builtin.Str.strSliceIndices
    simp only [show ((1 : Int) > 0) by decide, if_true, show ((-1 : Int) < 0) by decide]
    rw [show max (0 : Int) (min (-1 + (l.length : Int)) (l.length : Int)) = ((l.length - 1 : Nat) : Int) by lia]; rfl
theorem pickL_last {α : Type} {l : List α} (h : 1 ≤ l.length) : pickL l none (some (-1)) none = l.take (l.length - 1) := by
  unfold pickL sliceBounds
  simp only [Option.getD_none, show ((1 : Int) > 0) by decide, if_true, show ((-1 : Int) < 0) by decide]
  rw [show max (0 : Int) (min (-1 + (l.length : Int)) (l.length : Int)) = ((l.length - 1 : Nat) : Int) by lia]
  have := sliceRange_one 0 (l.length - 1)
  rw [show ((0 : Nat) : Int) = 0 from rfl] at this
  rw [this]
  have := PySem.pick_run l.toArray 0 (l.length - 1)
  simpa using this
theorem pickL_all {α : Type} {l : List α} : pickL l none none none = l := by
  unfold pickL sliceBounds
  simp only [Option.getD_none, show ((1 : Int) > 0) by decide, if_true]
  have := sliceRange_one 0 l.length
  rw [show ((0 : Nat) : Int) = 0 from rfl] at this
  rw [this]
  have := PySem.pick_run l.toArray 0 l.length
  simpa using this
theorem gluedL : ∀ (ls : List (List Nat)) (acc : Array Nat), ((ls.map ofL).foldl (fun acc p => acc ++ (ofL []).cps ++ p.cps) acc).toList = acc.toList ++ ls.flatten
  | [], acc => by simp
  | l :: ls, acc => by
    rw [List.map_cons, List.foldl_cons, gluedL ls]
    simp [ofL]
theorem joinL (ls : List (List Nat)) : Txt.join (ofL []) (ls.map ofL) = ofL ls.flatten := by
  cases ls with
  | nil => rfl
  | cons l ls =>
    show (⟨(ls.map ofL).foldl (fun acc p => acc ++ (ofL []).cps ++ p.cps) (ofL l).cps⟩ : Str) = ofL (l :: ls).flatten
    have := gluedL ls (ofL l).cps
    have e : (ofL (l :: ls).flatten) = ⟨((ofL l).cps.toList ++ ls.flatten).toArray⟩ := by simp [ofL]
    rw [e, ← this]

/- the table of a code object that makes one def -/
noncomputable def TabP (P : Addr) (qual : Str) (pos : Pos) (T : HS) : Prop :=
  T = [(P, .raw (tabObj #[]))] ∨ ∃ c' oc vs t, T = [(P, .raw (tabObj #[rawInt pos.line, rawInt pos.col, .ref c'])), (c', .raw oc)] ∧ oc.data = .fields vs ∧ vs[1]? = some (.str qual t)

section
variable {C : Cx} {A : Around} {env : Env} {names : List (Str × NameKind)} {cells : List (Str × Addr)} {m : Loc} {H H₀ T : HS}
theorem Sat.fresh {h : Heap} {n : Nat} {c' : Addr} {oc : Obj} (S : Sat C H h) (hlt : ∀ p ∈ H, p.1 < n) (h0 : ∀ b o, C.h₀.get? b = some o → b < n) (hc : n ≤ c') (ho : h.get? c' = some oc) : Sat C ((c', .raw oc) :: H) h where
  keep := S.keep
  nd := by
    rw [List.map_cons, List.nodup_cons]
    refine ⟨fun q => ?_, S.nd⟩
    obtain ⟨p, hp, e⟩ := List.mem_map.mp q
    have h1 := hlt p hp
    have e : p.1 = c' := e
    rw [e] at h1
    exact absurd h1 (Nat.not_lt.mpr hc)
  at_ := fun p hp => by
    rcases List.mem_cons.mp hp with rfl | hp
    · refine ⟨?_, oc, ho, rfl⟩
      cases q : C.h₀.get? c' with
      | none => rfl
      | some o => exact absurd (h0 _ _ q) (Nat.not_lt.mpr hc)
    · exact S.at_ p hp
/- what is known of a def's object that was made just now -/
structure Made1 (C : Cx) (H : HS) (f : Addr) (name qual : Str) (params : Arguments) (body : List Stmt) (scope : Scope) (clos : List (Str × Addr)) : Prop where
  ex : ∃ doc pm c' ctv, (∀ (F : HS) (h : Heap), Sat C (H ++ F) h → h.get? f = some (fnMade name qual params body scope clos doc pm c' ctv) ∧ h.CodeRec (.ref c') qual)
theorem EB.def {name qual : Str} {params : Arguments} {body rest : List Stmt} {scope : Scope} {pos : Pos} {P c cf : Addr} {u : AV} {clos : List (Str × Addr)} {Q : FL → Loc → HS → Prop} (G : C.Ok)
    (hB : C.h₀.get? P = none → ∀ h : Heap, (∀ b o, C.h₀.get? b = some o → h.get? b = some o) → h.BuiltinsAt C.mg P) (E : EnvOk env names cells) (hn : At names name .cell) (hc : At cells name cf) (hcode : env.code = .ref c) (CH : CodeHd C.h₀ c P)
    (hq : qualnameIn env name name = qual) (hT : TabP P qual pos T) (hd0 : params.defaults = []) (hk0 : params.kw_defaults = []) (ha : annTrees params none env = []) (hcl : closureFor scope env = pure clos)
    (hs : Sub (T ++ (cf, .cell u) :: H₀) H)
    (h : ∀ f ft T', TabP P qual pos T' → Made1 C (T' ++ [ft]) f name qual params body scope clos → EB C A rest env m (T' ++ ft :: (cf, .cell (.ref f)) :: H₀) Q) :
    EB C A (.FunctionDef name params body [] none [] scope none name pos :: rest) env m H Q := by
  refine EB.sub hs ?_
  intro F s Qc E' S k
  refine wpAny_execs_cons (nestDef_K hd0 hk0 ha ?_)
  rw [hq]
  have hg : s.heap.Ns mainGlobals C.mg := G.g.keeps S.keep
  have hlt := S.lt
  have h0 : ∀ b o, C.h₀.get? b = some o → b < s.heap.objs.size := fun b o e => Heap.lt_size (S.keep _ _ e)
  have fin : ∀ (f : Addr) (h' : Heap) (T' : HS) (ft : Addr × AO) (tk : Tok), TabP P qual pos T' → Made1 C (T' ++ [ft]) f name qual params body scope clos →
      Sat C (((env.locals, .ns m) :: (T' ++ ft :: (cf, .cell u) :: H₀)) ++ F) h' →
      wpAny C.M A (storeName env name (.ref f)) (fun _ s'' => match (Flow.next : Flow) with | .next => wpAny C.M A (execs rest env) Qc E' s'' | _ => Qc .next s'') E' { s with heap := h', toks := tk } := by
    intro f h' T' ft tk hT' hM S'
    have S'' : Sat C ((((env.locals, AO.ns m) :: (T' ++ [ft])) ++ (cf, .cell u) :: H₀) ++ F) h' := by simpa using S'
    refine store_cell (pre := (env.locals, AO.ns m) :: (T' ++ [ft])) (post := H₀) (Q := fun _ H' => H' = ((env.locals, AO.ns m) :: (T' ++ [ft])) ++ (cf, .cell (.ref f)) :: H₀) E hn hc (.ref f) rfl F { s with heap := h', toks := tk } _ E' S'' fun _ H' h₂ t₂ e S₂ => ?_
    subst e
    have S₃ : Sat C (((env.locals, .ns m) :: (T' ++ ft :: (cf, .cell (.ref f)) :: H₀)) ++ F) h₂ := by simpa using S₂
    exact h f ft T' hT' hM F { s with heap := h₂, toks := t₂ } _ _ S₃ k
  have hPn : ∀ {X : HS} {ao : AO}, Sat C ((P, ao) :: X) s.heap → mainGlobals ≠ P := fun S q => by
    have e1 : C.h₀.get? P = none := (S.at_ _ (.head _)).1
    obtain ⟨o, es, ep, e, _⟩ := G.g
    rw [q, e1] at e; cases e
  rcases hT with rfl | ⟨c', oc, vs, t, rfl, hd, hv⟩
  · have S₁ : Sat C ((P, .raw (tabObj #[])) :: (env.locals, .ns m) :: ((cf, .cell u) :: H₀ ++ F)) s.heap := S.of_perm (by simpa using List.Perm.swap ..)
    have hP : s.heap.get? P = some (tabObj #[]) := by obtain ⟨_, o, e, q⟩ := S₁.at_ _ (.head _); cases q; exact e
    refine makeFunction_K (c := c) (P := P) (ps := #[]) (mg := C.mg) hcl E.globals hg hcode (CH.keeps S.keep) hP trivial rfl (hPn S₁) (hB (S₁.at_ _ (.head _)).1 _ S.keep) fun c' ctv doc h' tk hx hge hltc hrec htb => ?_
    obtain ⟨c₂, oc, vs, t, e2, hoc, hd, hv⟩ := hrec
    cases e2
    have S₂ : Sat C ((P, .raw (tabObj #[rawInt pos.line, rawInt pos.col, .ref c'])) :: (env.locals, .ns m) :: ((cf, .cell u) :: H₀ ++ F)) h' := Sat.set (pre := []) S₁ (fun b o q e => hx b o q e) htb rfl
    have S₃ := Sat.fresh S₂ (n := s.heap.objs.size) (fun p hp => by
      rcases List.mem_cons.mp hp with rfl | hp
      · exact S₁.lt (P, .raw (tabObj #[])) (.head _)
      · exact S₁.lt p (.tail _ hp)) h0 hge hoc
    have S₄ := S₃.push (o := fnMade name qual params body scope clos doc ((C.mg "__name__").getD .none) c' ctv) (ao := .raw (fnMade name qual params body scope clos doc ((C.mg "__name__").getD .none) c' ctv)) rfl
    refine fin h'.objs.size _ [(P, .raw (tabObj #[rawInt pos.line, rawInt pos.col, .ref c'])), (c', .raw oc)] (h'.objs.size, .raw (fnMade name qual params body scope clos doc ((C.mg "__name__").getD .none) c' ctv)) tk (.inr ⟨c', oc, vs, t, rfl, hd, hv⟩) ⟨doc, (C.mg "__name__").getD .none, c', ctv, fun F h S => ⟨?_, ?_⟩⟩ (S₄.of_perm ?_)
    · obtain ⟨_, o, e, q⟩ := S.at_ (h'.objs.size, _) (List.Mem.tail _ (List.Mem.tail _ (List.Mem.head _))); cases q; exact e
    · obtain ⟨_, o, e, q⟩ := S.at_ (c', .raw oc) (by simp); cases q; exact ⟨c', _, vs, t, rfl, e, hd, hv⟩
    · exact (List.reverse_perm [_, _, _, _]).append_right ((cf, .cell u) :: H₀ ++ F)
  · have S₁ : Sat C ((P, .raw (tabObj #[rawInt pos.line, rawInt pos.col, .ref c'])) :: (env.locals, .ns m) :: ((c', .raw oc) :: (cf, .cell u) :: H₀ ++ F)) s.heap := S.of_perm (by simpa using List.Perm.swap ..)
    have hP : s.heap.get? P = some (tabObj #[rawInt pos.line, rawInt pos.col, .ref c']) := by obtain ⟨_, o, e, q⟩ := S₁.at_ _ (.head _); cases q; exact e
    refine makeFunction_hit (c := c) (P := P) (mg := C.mg) (cv := .ref c') hcl E.globals hg hcode (CH.keeps S.keep) hP ?_ ?_ (hB (S₁.at_ _ (.head _)).1 _ S.keep) fun ctv doc h' tk hk hsz => ?_
    · exact trivial
    · exact codeAmong_snoc [] trivial rfl
    · have S₄ := (S.grow hk).push (o := fnMade name qual params body scope clos doc ((C.mg "__name__").getD .none) c' ctv) (ao := .raw (fnMade name qual params body scope clos doc ((C.mg "__name__").getD .none) c' ctv)) rfl
      refine fin h'.objs.size _ [(P, .raw (tabObj #[rawInt pos.line, rawInt pos.col, .ref c'])), (c', .raw oc)] (h'.objs.size, .raw (fnMade name qual params body scope clos doc ((C.mg "__name__").getD .none) c' ctv)) tk (.inr ⟨c', oc, vs, t, rfl, hd, hv⟩) ⟨doc, (C.mg "__name__").getD .none, c', ctv, fun F h S => ⟨?_, ?_⟩⟩ (S₄.of_perm ?_)
      · obtain ⟨_, o, e, q⟩ := S.at_ (h'.objs.size, _) (List.Mem.tail _ (List.Mem.tail _ (List.Mem.head _))); cases q; exact e
      · obtain ⟨_, o, e, q⟩ := S.at_ (c', .raw oc) (by simp); cases q; exact ⟨c', _, vs, t, rfl, e, hd, hv⟩
      · exact List.perm_middle (l₁ := [_, _, _])
end

section
variable {C : Cx} {A : Around} {env : Env} {names : List (Str × NameKind)} {cells : List (Str × Addr)} {L : Addr} {m : Loc} {H : HS}
/- over a list from its end -/
theorem Iter.rev {l I : Addr} {xs : List AV} (hh : A.handled = none) : Iter C A I xs.reverse (fun i => .iter "list_reverseiterator" [.ref l, rawInt ((xs.length : Int) - 1 - i)]) (fun H => (l, AO.list xs) ∈ H) where
  item := fun i x H hx hm F s Qc E S k => by
    obtain ⟨vs, n, e, r⟩ := S.list (List.mem_append_left F (List.Mem.tail _ hm))
    obtain ⟨_, o, eo, hc, hd⟩ := S.at_ (I, _) (.head _)
    have hi : i < xs.length := by have := (List.getElem?_eq_some_iff.mp hx).1; simpa using this
    rw [List.getElem?_reverse hi] at hx
    obtain ⟨V, hV, iV⟩ := r.get hx
    have ej : (xs.length : Int) - 1 - i = ((xs.length - 1 - i : Nat) : Int) := by omega
    rw [ej] at hd
    refine wpAny_pyNext_rev_item ⟨o, eo, hc, hd⟩ (isList_of e) (x := V) (by simpa using hV) fun h' hit hs => ?_
    obtain ⟨o', eo', hc', hd'⟩ := hit
    refine k _ _ _ s.toks ⟨V, rfl, iV, rfl⟩ (S.head hs eo' ⟨hc', ?_⟩)
    rw [hd', ← ej, show (xs.length : Int) - 1 - ((i + 1 : Nat) : Int) = (xs.length : Int) - 1 - i - 1 by lia]
  done := fun H hm F s Qc E S k => by
    obtain ⟨_, o, eo, hc, hd⟩ := S.at_ (I, _) (.head _)
    rw [List.length_reverse, show (xs.length : Int) - 1 - xs.length = -1 by lia] at hd
    refine wpAny_pyNext_rev_end hh ⟨o, eo, hc, hd⟩ fun h' hs => ?_
    exact k _ _ _ s.toks ⟨rfl, rfl⟩ (S.tail hs)
  self := fun i H F s Qc E S k => by
    obtain ⟨_, o, eo, hc, hd⟩ := S.at_ (I, _) (.head _)
    exact wpAny_pyIter_revIter ⟨o, eo, hc, hd⟩ (k _ _ s.heap s.toks ⟨rfl, rfl⟩ S)
  owned := fun target i V H => owned_of (C := C) (T := "list_reverseiterator") (it := .iter "list_reverseiterator" [.ref l, rawInt ((xs.length : Int) - 1 - i)]) (fun o h => h.1) (by decide) target V H
theorem CB.reversed {l : Addr} {xs : List AV} {Q : AV → HS → Prop} (hm : (l, AO.list xs) ∈ H) (h : ∀ I, Q (.ref I) ((I, .iter "list_reverseiterator" [.ref l, rawInt ((xs.length : Int) - 1 - (0 : Nat))]) :: H)) : OPL C A (fun Vs => call (.type "reversed") Vs) [.ref l] L m H Q :=
  .one fun V i F s Qc E S k => by
    obtain ⟨_, rfl⟩ := i.inv
    obtain ⟨vs, n, e, r⟩ := S.list (List.mem_append_left F (List.Mem.tail _ hm))
    have hlen : vs.size = xs.length := by rw [← r.length]; simp
    refine call_reversed_list (isList_of e) ?_
    refine k _ _ _ s.toks ⟨_, _, rfl, .ref _, h _⟩ (Sat.new S ⟨rfl, ?_⟩)
    rw [hlen]; simp [revObj]
/- a loop over what is its own iterator -/
theorem EB.forI {target iter : Expr} {body rest : List Stmt} {pos : Pos} {Q : FL → Loc → HS → Prop}
    (h : EV C A iter env m H fun v H₁ => ∃ (I : Addr) (it : Nat → AO) (H₂ : HS) (xs : List AV) (need : HS → Prop) (J : Nat → Loc → HS → Prop), v = .ref I ∧ H₁ = (I, it 0) :: H₂ ∧ Iter C A I xs it need ∧ J 0 m H₂ ∧ (∀ i m H, J i m H → need ((env.locals, .ns m) :: H)) ∧
      (∀ i x m H, xs[i]? = some x → J i m H → ASG C A target x env m H (kRest C A body env (LOOPQ (seqQ Q (kRest C A rest env Q)) (J (i + 1))))) ∧ (∀ m H, J xs.length m H → EB C A rest env m H Q))
    (hs : autoParam (∀ x, foldedSetIterable iter env x = pure x) aI) : EB C A (.For target iter body [] pos :: rest) env m H Q :=
  EB.cons fun F s Qc E S k => wpAny_For (TV.go h S fun V v H₁ h₁ t₁ i qq S₁ => by
    obtain ⟨I, it, H₂, xs, need, J, ev, e1, W, h0, hneed, step, done⟩ := qq; subst ev; subst e1; obtain ⟨_, rfl⟩ := i.inv
    have S₂ : Sat C (((I, it 0) :: (env.locals, .ns m) :: H₂) ++ F) h₁ := S₁.of_perm (List.Perm.swap ..)
    refine W.self 0 _ F { s with heap := h₁, toks := t₁ } _ E S₂ fun x H' h₂ t₂ ⟨e1, e2⟩ S₃ => ?_
    subst e1; subst e2
    exact for_core (Q := seqQ Q (kRest C A rest env Q)) (s := { s with heap := h₂, toks := t₂ }) W J hneed step done h0 (S₃.of_perm (List.perm_middle (l₁ := (env.locals, AO.ns m) :: H₂))) fun fl f m' H' h' tk' jf q S' => k _ _ _ _ ⟨f, m', H', rfl, jf, q⟩ S') hs
theorem TRU.list {l : Addr} {xs : List AV} {Q : Bool → HS → Prop} (hm : (l, AO.list xs) ∈ H) (hsz : xs.length ≤ 1000) (h : Q (!xs.isEmpty) H) : TRU C A (.ref l) L m H Q := fun V i F s _ _ S k => by
  obtain ⟨_, rfl⟩ := i.inv
  obtain ⟨vs, n, e, r⟩ := S.list (List.mem_append_left F (List.Mem.tail _ hm))
  have hlen : vs.size = xs.length := by rw [← r.length]; simp
  refine wpAny_truthy_list (isList_of e) (by rw [hlen]; lia) (k _ _ s.heap _ ⟨H, rfl, ?_⟩ S)
  have : vs.isEmpty = xs.isEmpty := by rw [Bool.eq_iff_iff, Array.isEmpty_iff_size_eq_zero, hlen, List.isEmpty_iff, List.length_eq_zero_iff]
  rw [this]; exact h
theorem TRU.int {x : Int} {Q : Bool → HS → Prop} (h : Q (x != 0) H) : TRU C A (.int x) L m H Q := fun V i F s _ _ S k => by
  obtain ⟨_, rfl⟩ := i.inv; exact PyProof.Rows.truthy_int (k _ _ s.heap _ ⟨H, rfl, h⟩ S)
theorem TRU.none {Q : Bool → HS → Prop} (h : Q false H) : TRU C A .none L m H Q := fun V i F s _ _ S k => by
  obtain ⟨_, rfl⟩ := i.inv; exact PyProof.Rows.truthy_none (k _ _ s.heap _ ⟨H, rfl, h⟩ S)

theorem FnKX.call {f : Addr} {body : List Stmt} {ps : List Str} {args : List AV} {Q : AV → HS → Prop} {n : Nat} {c P : Addr} {q : Str} (X : FnKX C f body names ps c P q) (G : C.Ok) (R : Rm A (n + 1)) (locs : List Str) (hl : ps.length = args.length)
    (st : (names.map (·.1)).Nodup ∧ (∀ p ∈ names, p.2 ≠ .globalImplicit → p.1 ≠ "__debug__") ∧ locs.Nodup ∧ (cellNames names).Nodup)
    (h : ∀ env cs, cs.length = (cellNames names).length → EnvOk env names ((cellNames names).zip cs) → env.code = .ref c → env.qual = q ++ ".<locals>." →
      BNDA C A.in1 env (ps.zip args) (locs.map fun x => (x, .undef)) (newCells cs ++ (L, .ns m) :: H) fun m₁ H₁ => EB C (A.deeper env) body env m₁ H₁ (RET L m Q)) : OPL C A (fun Vs => PySem.call (.ref f) Vs) args L m H Q := by
  obtain ⟨fd, X, hp, h1, h2⟩ := X.ex
  intro Vs hV
  show TV C A (PySem.call (.ref f) Vs) L m H Q
  exact CK.tv <| enterC (locs := locs) (cl := []) (kws := []) G X.here X.st R Vs Vs hV (fun s _ => .of_eq (hp Vs (by rw [hV.length, hl]))) hl (by simpa using st) fun env cs hc E hq => h env cs hc (by simpa using E) (hq.1.trans h1) (by rw [hq.2, h2])
theorem EV.callKX {env : Env} {f : Str} {p pos : Pos} {e : Expr} {rest : List Expr} {a : Addr} {body : List Stmt} {names : List (Str × NameKind)} {ps : List Str} {c P : Addr} {q : Str} {Q : AV → HS → Prop} (X : FnKX C a body names ps c P q)
    (h : EV C A (.Name f p) env m H (kCallK C A a pos (e :: rest) env m Q))
    (he : autoParam (starEach (e :: rest) env = (false, eval e env) :: starEach rest env) aRfl) : EV C A (.Call (.Name f p) (e :: rest) [] pos) env m H Q := by
  obtain ⟨fd, X, _⟩ := X.ex
  obtain ⟨o, ho, hd⟩ := X.ob
  exact EV.callF (TV.mono h fun fv H₁ ⟨e, q⟩ => ⟨a, o, fd, e, hd, TL.mono q fun as H₂ q => ⟨fun F h S => S.keep _ _ ho, q⟩⟩) he

/- the def that was made inside another -/
theorem Made1.callE {f : Addr} {name qual : Str} {params : Arguments} {body : List Stmt} {scope : Scope} {clos : List (Str × Addr)} {Hm : HS} {fn : Str} {p pos : Pos} {e : Expr} {rest : List Expr} {Q : AV → HS → Prop} (X : Made1 C Hm f name qual params body scope clos)
    (h : EV C A (.Name fn p) env m H fun fv H₁ => fv = .ref f ∧ EL C A pos (e :: rest) env m H₁ fun as H₂ => Sub Hm H₂ ∧ OPL C A (fun Vs => PySem.call (.ref f) Vs) as env.locals m H₂ Q)
    (he : autoParam (starEach (e :: rest) env = (false, eval e env) :: starEach rest env) aRfl) : EV C A (.Call (.Name fn p) (e :: rest) [] pos) env m H Q := by
  obtain ⟨doc, pm, c', ctv, hx⟩ := X.ex
  exact EV.callF (TV.mono h fun fv H₁ ⟨e, q⟩ => ⟨f, _, _, e, rfl, TL.mono q fun as H₂ ⟨hs, q⟩ => ⟨fun F h S => (hx _ _ ((Sub.trans hs Sub.drop1) F C h S)).1, q⟩⟩) he
theorem Made1.call {f : Addr} {name qual : Str} {params : Arguments} {body : List Stmt} {scope : Scope} {clos : List (Str × Addr)} {Hm : HS} {ps : List Str} {args : List AV} {cl : List (Str × Addr)} {Q : AV → HS → Prop} {n : Nat} (X : Made1 C Hm f name qual params body scope clos) (hs : Sub Hm H) (G : C.Ok) (R : Rm A (n + 1)) (locs : List Str)
    (hp : ∀ (doc pm cv ctv : Value) (Vs : List Value), Vs.length = ps.length → bindArgs (fnX name qual params body scope clos .none .none doc pm none cv ctv) ⟨Vs, []⟩ = pure (ps.zip Vs)) (hl : ps.length = args.length) (hk : scope.names = names ∧ scope.kind = .function ∧ scope.isCoroutine = false ∧ scope.isGenerator = false)
    (hc : ∀ x c, At cl x c → clos.lookup x = some c)
    (st : (names.map (·.1)).Nodup ∧ (∀ p ∈ names, p.2 ≠ .globalImplicit → p.1 ≠ "__debug__") ∧ locs.Nodup ∧ (cellNames names ++ cl.map (·.1)).Nodup) (h0 : cellNames names = [])
    (h : ∀ env, EnvOk env names cl → BNDA C A.in1 env (ps.zip args) (locs.map fun x => (x, .undef)) ((L, .ns m) :: H) fun m₁ H₁ => EB C (A.deeper env) body env m₁ H₁ (RET L m Q)) : OPL C A (fun Vs => PySem.call (.ref f) Vs) args L m H Q := by
  obtain ⟨doc, pm, c', ctv, hx⟩ := X.ex
  intro Vs hV
  show TV C A (PySem.call (.ref f) Vs) L m H Q
  refine CK.tv <| enterC (fd := fnX name qual params body scope clos .none .none doc pm none (.ref c') ctv) (locs := locs) (cl := cl) (kws := []) G (fun F h S => ?_) ⟨rfl, hk.1, hk.2.1, hk.2.2.1, hk.2.2.2, rfl, rfl, hc⟩ R Vs Vs hV (fun s _ => .of_eq (hp _ _ _ _ Vs (by rw [hV.length, hl]))) hl st fun env cs hcs E _ => ?_
  · have := hx _ _ ((Sub.trans hs Sub.drop1) F C h S)
    exact ⟨⟨_, this.1, rfl⟩, this.2⟩
  · rw [h0] at hcs E
    have : cs = [] := List.eq_nil_of_length_eq_zero hcs
    subst this
    exact h env (by simpa using E)
end

section
variable {C : Cx} {A : Around} {env : Env} {names snames names' : List (Str × NameKind)} {cells cls : List (Str × Addr)} {locs : List Str} {scope : Scope} {L : Addr} {m : Loc} {H H₀ T : HS}
theorem clos_at (E : EnvOk env names cells) (S : CompSt scope names cells snames names' cls locs) {x : Str} {c : Addr} (h : At cls x c) : (clf env snames).reverse.lookup x = some c := by
  have ndf : ((clf env snames).map (·.1)).Nodup := S.nd.sublist clf_keys
  rw [lookup_rev ndf]
  refine lookup_mem ndf ?_
  obtain ⟨h1, h2⟩ := S.cls_ _ h.mem
  unfold clf
  refine List.mem_filterMap.mpr ⟨(x, .free), h2, ?_⟩
  have := E.cells_ _ _ h1
  simp [this]
/- a def made inside another: its object, its closure's cells -/
noncomputable def Inner (C : Cx) (H : HS) (f : Addr) (name qual : Str) (params : Arguments) (body : List Stmt) (scope : Scope) (cls : List (Str × Addr)) : Prop := ∃ clos, Made1 C H f name qual params body scope clos ∧ ∀ x c, At cls x c → clos.lookup x = some c
theorem exUpd2 {c : Addr} {u v : AV} {H' : HS} {P : HS → Prop} (hp : Mine.Upd H c (.cell u) (.cell v) H') (h : P H') : ∃ u H₂, Mine.Upd H c (.cell u) (.cell v) H₂ ∧ P H₂ := ⟨u, H', hp, h⟩
theorem EB.def' {name qual : Str} {params : Arguments} {body rest : List Stmt} {pos : Pos} {P c cf : Addr} {u : AV} {Q : FL → Loc → HS → Prop} (G : C.Ok)
    (hB : C.h₀.get? P = none → ∀ h : Heap, (∀ b o, C.h₀.get? b = some o → h.get? b = some o) → h.BuiltinsAt C.mg P) (E : EnvOk env names cells) (hn : At names name .cell) (hc : At cells name cf) (hcode : env.code = .ref c) (CH : CodeHd C.h₀ c P)
    (hq : env.qual ++ name = qual) (S : CompSt scope names cells snames names' cls locs) (hT : TabP P qual pos T) (hs : Sub (T ++ (cf, .cell u) :: H₀) H)
    (h : ∀ f ft T', TabP P qual pos T' → Inner C (T' ++ [ft]) f name qual params body scope cls → EB C A rest env m (T' ++ ft :: (cf, .cell (.ref f)) :: H₀) Q)
    (hd0 : autoParam (params.defaults = []) aRfl) (hk0 : autoParam (params.kw_defaults = []) aRfl) (ha : autoParam (annTrees params none env = []) aRfl) :
    EB C A (.FunctionDef name params body [] none [] scope none name pos :: rest) env m H Q := by
  refine EB.def G hB E hn hc hcode CH ?_ hT hd0 hk0 ha (closureFor_eq E S) hs fun f ft T' hT' hM => h f ft T' hT' ⟨_, hM, fun x c hx => clos_at E S hx⟩
  unfold qualnameIn
  rw [E.kindOf hn]; exact hq
theorem Inner.callE {f : Addr} {name qual : Str} {params : Arguments} {body : List Stmt} {Hm : HS} {fn : Str} {p pos : Pos} {e : Expr} {rest : List Expr} {Q : AV → HS → Prop} (X : Inner C Hm f name qual params body scope cls)
    (h : EV C A (.Name fn p) env m H fun fv H₁ => fv = .ref f ∧ EL C A pos (e :: rest) env m H₁ fun as H₂ => Sub Hm H₂ ∧ OPL C A (fun Vs => PySem.call (.ref f) Vs) as env.locals m H₂ Q)
    (he : autoParam (starEach (e :: rest) env = (false, eval e env) :: starEach rest env) aRfl) : EV C A (.Call (.Name fn p) (e :: rest) [] pos) env m H Q := by
  obtain ⟨_, X, _⟩ := X; exact X.callE h he
theorem Inner.call {f : Addr} {name qual : Str} {params : Arguments} {body : List Stmt} {Hm : HS} {ps : List Str} {args : List AV} {Q : AV → HS → Prop} {n : Nat} (X : Inner C Hm f name qual params body scope cls) (hs : Sub Hm H) (G : C.Ok) (R : Rm A (n + 1)) (locs : List Str)
    (hp : ∀ (clos : List (Str × Addr)) (doc pm cv ctv : Value) (Vs : List Value), Vs.length = ps.length → bindArgs (fnX name qual params body scope clos .none .none doc pm none cv ctv) ⟨Vs, []⟩ = pure (ps.zip Vs)) (hl : ps.length = args.length) (hk : scope.names = names ∧ scope.kind = .function ∧ scope.isCoroutine = false ∧ scope.isGenerator = false)
    (st : (names.map (·.1)).Nodup ∧ (∀ p ∈ names, p.2 ≠ .globalImplicit → p.1 ≠ "__debug__") ∧ locs.Nodup ∧ (cellNames names ++ cls.map (·.1)).Nodup) (h0 : cellNames names = [])
    (h : ∀ env, EnvOk env names cls → BNDA C A.in1 env (ps.zip args) (locs.map fun x => (x, .undef)) ((L, .ns m) :: H) fun m₁ H₁ => EB C (A.deeper env) body env m₁ H₁ (RET L m Q)) : OPL C A (fun Vs => PySem.call (.ref f) Vs) args L m H Q := by
  obtain ⟨clos, X, hc⟩ := X
  exact X.call hs G R locs (fun doc pm cv ctv Vs => hp clos doc pm cv ctv Vs) hl hk hc st h0 h
theorem Inner.mono {Hm Hn : HS} {f : Addr} {name qual : Str} {params : Arguments} {body : List Stmt} (X : Inner C Hm f name qual params body scope cls) (e : Sub Hm Hn) : Inner C Hn f name qual params body scope cls := by
  obtain ⟨clos, ⟨doc, pm, c', ctv, hx⟩, hc⟩ := X
  exact ⟨clos, ⟨doc, pm, c', ctv, fun F h S => hx F h (e _ _ _ S)⟩, hc⟩
theorem Inner.front {f : Addr} {ft : Addr × AO} {name qual : Str} {params : Arguments} {body : List Stmt} (X : Inner C (T ++ [ft]) f name qual params body scope cls) : Inner C (ft :: T) f name qual params body scope cls :=
  X.mono (Sub.of_perm (List.perm_append_comm (l₁ := T) (l₂ := [ft])))
theorem OPL.sub {H' : HS} {f : List Value → Sem Value} {as : List AV} {Q : AV → HS → Prop} (e : Sub H' H) (h : OPL C A f as L m H' Q) : OPL C A f as L m H Q := fun Vs hV => Tr.pre (Sub.cons e) (h Vs hV)
theorem Sub.left {T H : HS} : Sub T (T ++ H) := Sub.of_sublist (List.sublist_append_left ..)
theorem Sub.rot {X T Y : HS} : Sub (X ++ (T ++ Y)) (T ++ (X ++ Y)) := Sub.of_perm (by
  rw [← List.append_assoc, ← List.append_assoc]
  exact List.perm_append_comm.append_right _)
theorem Sub.under' {X T Y : HS} (e : Sub T Y) : Sub (X ++ T) (X ++ Y) := by
  induction X with
  | nil => exact e
  | cons p X ih => exact Sub.cons ih
end

section
variable {C : Cx} {A : Around} {env : Env} {L : Addr} {m : Loc} {H : HS} {Q : AV → HS → Prop}
theorem EV.dict0 {pos : Pos} (h : ∀ a, Q (.ref a) ((a, .dict []) :: H)) : EV C A (.Dict [] [] pos) env m H Q :=
  fun F s Qc E S k => wpAny_Dict_empty (k _ _ _ s.toks ⟨_, _, rfl, .ref _, h _⟩ (Sat.new S ⟨[], ⟨#[], 0, ⟨rfl, rfl, rfl⟩, rfl, (fun e he => by simp at he), .nil, .nil⟩, trivial⟩))
theorem EV.dict1 {kx vx : Expr} {pos : Pos} (h : EV C A kx env m H fun kv H₁ => ∃ x, kv = .str x ∧ EV C A vx env m H₁ fun v H₂ => ∀ a, Q (.ref a) ((a, .dict [(x, v)]) :: H₂)) : EV C A (.Dict [some kx] [vx] pos) env m H Q := by
  intro F s Qc E S k
  have hd0 : OIs C (.dict []) { cls := .type "dict", data := .dict #[] } := ⟨[], ⟨#[], 0, ⟨rfl, rfl, rfl⟩, rfl, (fun e he => by simp at he), .nil, .nil⟩, trivial⟩
  have S0 : Sat C (((env.locals, .ns m) :: H) ++ (s.heap.objs.size, .dict []) :: F) (s.heap.push { cls := .type "dict", data := .dict #[] }) := (S.push hd0).of_perm List.perm_middle
  refine wpAny_Dict_walk (knd := PySem.strKind C.prog C.w) rfl rfl (by simp) (by simp) ?_
  show wpAny C.M A (evalPairs [(eval kx env, do let x ← eval vx env; standAt pos; pure x)]) _ E _
  refine evalPairs_cons (h ((s.heap.objs.size, .dict []) :: F) { s with heap := s.heap.push { cls := .type "dict", data := .dict #[] } } _ E S0 fun kV _ h₁ t₁ ⟨kv, H₁, e, ik, x, ex, q⟩ S₁ => ?_)
  subst e; subst ex; obtain ⟨_, rfl⟩ := ik.inv
  refine wpAny_bind (q ((s.heap.objs.size, .dict []) :: F) { s with heap := h₁, toks := t₁ } _ E S₁ fun vV _ h₂ t₂ ⟨v, H₂, e, iv, q'⟩ S₂ => ?_)
  subst e
  refine wpAny_bind (wpAny_standAt (wpAny_pure (evalPairs_nil ?_)))
  obtain ⟨_, o, eo, kvs, hk, hp⟩ := S₂.at_ (s.heap.objs.size, .dict []) (by simp)
  have hk0 : kvs = [] := by
    cases kvs with
    | nil => rfl
    | cons a b => exact absurd hp (fun h => h)
  subst hk0
  refine ⟨[(x, vV)], ⟨skind_is C x _, rfl, trivial⟩, Heap.dictOf_iff.mpr ⟨o, eo, hk⟩, fun h' hD hs => ?_⟩
  obtain ⟨o', eo', hk'⟩ := Heap.dictOf_iff.mp hD
  have S₃ : Sat C (((s.heap.objs.size, .dict []) :: ((env.locals, .ns m) :: H₂)) ++ F) h₂ := S₂.of_perm (List.perm_middle (l₁ := (env.locals, AO.ns m) :: H₂)).symm
  have S₄ := Sat.head (ao' := .dict [(x, v)]) S₃ hs eo' ⟨_, hk', rfl, iv, trivial⟩
  exact k _ _ _ _ ⟨_, _, rfl, .ref _, q' _⟩ (S₄.of_perm (List.Perm.swap ..))
theorem TV.congr {t : Sem Value} {Q' : AV → HS → Prop} (h : TV C A t L m H Q) (e : ∀ v H, Q v H → Q' v H) : TV C A t L m H Q' := TV.mono h e
end

section
variable {C : Cx} {A : Around} {L : Addr} {m : Loc} {H : HS} {Q : AV → HS → Prop} {x y : UInt64}
theorem OP.addf (h : Q (.flt (Float64.add x y)) H) : OP2 C A (binaryOp .Add) (.flt x) (.flt y) L m H Q := by
  intro Va Vb ia ib F s Qc E S k; obtain ⟨_, rfl⟩ := ia.inv; obtain ⟨_, rfl⟩ := ib.inv
  exact AutoFloatOps.add_0 (k _ _ s.heap _ ⟨_, H, rfl, .flt _ _, h⟩ S)
theorem OP.subf (h : Q (.flt (Float64.sub x y)) H) : OP2 C A (binaryOp .Sub) (.flt x) (.flt y) L m H Q := by
  intro Va Vb ia ib F s Qc E S k; obtain ⟨_, rfl⟩ := ia.inv; obtain ⟨_, rfl⟩ := ib.inv
  exact AutoFloatOps.sub_0 (k _ _ s.heap _ ⟨_, H, rfl, .flt _ _, h⟩ S)
theorem OP.mulf (h : Q (.flt (Float64.mul x y)) H) : OP2 C A (binaryOp .Mult) (.flt x) (.flt y) L m H Q := by
  intro Va Vb ia ib F s Qc E S k; obtain ⟨_, rfl⟩ := ia.inv; obtain ⟨_, rfl⟩ := ib.inv
  exact AutoFloatOps.mul_0 (k _ _ s.heap _ ⟨_, H, rfl, .flt _ _, h⟩ S)
theorem OP.divf (hz : Float64.isZero y = false) (h : Q (.flt (Float64.div x y)) H) : OP2 C A (binaryOp .Div) (.flt x) (.flt y) L m H Q := by
  intro Va Vb ia ib F s Qc E S k; obtain ⟨_, rfl⟩ := ia.inv; obtain ⟨_, rfl⟩ := ib.inv
  exact AutoFloatOps.truediv_1 (by rw [hz]; decide) (k _ _ s.heap _ ⟨_, H, rfl, .flt _ _, h⟩ S)
theorem OP.modf (hz : Float64.isZero y = false) (h : Q (.flt (Float64.divmod x y).snd) H) : OP2 C A (binaryOp .Mod) (.flt x) (.flt y) L m H Q := by
  intro Va Vb ia ib F s Qc E S k; obtain ⟨_, rfl⟩ := ia.inv; obtain ⟨_, rfl⟩ := ib.inv
  exact AutoFloatOps.mod_1 (by rw [hz]; decide) (k _ _ s.heap _ ⟨_, H, rfl, .flt _ _, h⟩ S)
theorem OP.eqf (h : Q (.bool (Float64.cmp x y == some Ordering.eq)) H) : OP2 C A (compareOp .Eq) (.flt x) (.flt y) L m H Q := by
  intro Va Vb ia ib F s Qc E S k; obtain ⟨_, rfl⟩ := ia.inv; obtain ⟨_, rfl⟩ := ib.inv
  exact AutoFloatOps.eq_0 (k _ _ s.heap s.toks ⟨_, H, rfl, .bool _, h⟩ S)
theorem OP.divi {a b : Int} (hb : b ≠ 0) (hi : Float64.isInf (Float64.ofFrac (decide (a < 0) != decide (b < 0)) a.natAbs b.natAbs) = false) (h : Q (.flt (Float64.ofFrac (decide (a < 0) != decide (b < 0)) a.natAbs b.natAbs)) H) : OP2 C A (binaryOp .Div) (.int a) (.int b) L m H Q := by
  intro Va Vb ia ib F s Qc E S k; obtain ⟨_, rfl⟩ := ia.inv; obtain ⟨_, rfl⟩ := ib.inv
  exact AutoIntOps.truediv_2 (by simpa using hb) (by rw [hi]; decide) (k _ _ s.heap _ ⟨_, H, rfl, .flt _ _, h⟩ S)
theorem CB.intf {sg : Bool} {mm : Nat} {e : Int} (hd : Float64.decode x = .fin sg mm e) (h : Q (.int (Float64.truncOf sg mm e)) H) : OPL C A (fun Vs => call (.type "int") Vs) [.flt x] L m H Q :=
  .one fun V i F s Qc E S k => by
    obtain ⟨_, rfl⟩ := i.inv; exact call_int_float hd (k _ _ s.heap _ ⟨_, H, rfl, .int _ _, h⟩ S)
theorem OP.subfi {b : Int} (hi : Float64.isInf (Float64.ofInt b) = false) (h : Q (.flt (Float64.sub x (Float64.ofInt b))) H) : OP2 C A (binaryOp .Sub) (.flt x) (.int b) L m H Q := by
  intro Va Vb ia ib F s Qc E S k; obtain ⟨_, rfl⟩ := ia.inv; obtain ⟨_, rfl⟩ := ib.inv
  exact AutoFloatOps.sub_fi_1 (by rw [hi]; decide) (k _ _ s.heap _ ⟨_, H, rfl, .flt _ _, h⟩ S)
theorem OP.mulfi {b : Int} (hi : Float64.isInf (Float64.ofInt b) = false) (h : Q (.flt (Float64.mul x (Float64.ofInt b))) H) : OP2 C A (binaryOp .Mult) (.flt x) (.int b) L m H Q := by
  intro Va Vb ia ib F s Qc E S k; obtain ⟨_, rfl⟩ := ia.inv; obtain ⟨_, rfl⟩ := ib.inv
  exact AutoFloatOps.mul_fi_1 (by rw [hi]; decide) (k _ _ s.heap _ ⟨_, H, rfl, .flt _ _, h⟩ S)
end

theorem max3 {prog : Program} {w : World} {A : Around} {E : Value → Shared → Prop} {s : Shared} {Q : Value → Shared → Prop} {a b c : Value} (hh : A.handled = none) (ha : PySem.Flt.NumV a) (hb : PySem.Flt.NumV b) (hc : PySem.Flt.NumV c)
    (h : ∀ h' tk, (∀ c o, s.heap.get? c = some o → h'.get? c = some o) → Q (if PySem.Flt.ltV a b then (if PySem.Flt.ltV b c then c else b) else (if PySem.Flt.ltV a c then c else a)) { s with heap := h', toks := tk }) :
    wpAny (model prog w) A (call (.builtin "max") [a, b, c]) Q E s := by
  have hT : (s.heap.push { cls := .type "tuple", data := .seq #[a, b, c] }).IsTuple s.heap.objs.size #[a, b, c] := ⟨_, Heap.get?_push_size _ rfl, rfl, 0, rfl⟩
  refine call_max_three (wpAny_pyIter_tuple hT ?_)
  have hsz : (s.heap.push { cls := .type "tuple", data := .seq #[a, b, c] }).objs.size = s.heap.objs.size + 1 := Heap.size_push ..
  refine ⟨_, [_, s.heap.objs.size], [_], _, _, _, _, rfl, Walks.tuple (A := A.in1) hh _ s.heap.objs.size (by rw [hsz]; exact Nat.ne_of_lt (Nat.lt_succ_self _)) #[a, b, c],
    ⟨⟨_, Heap.get?_push_size _ rfl, rfl, rfl⟩, hT.push _⟩, fun d hd => ?_, by simp, PySem.Flt.cmpOf_gt #[a, b, c] (by simp [ha, hb, hc]), fun v h' tk hP hk => ?_⟩
  · show d < ((s.heap.push _).push _).objs.size
    rw [Heap.size_push, hsz]
    rcases List.mem_cons.mp hd with rfl | hd
    · rw [hsz]; exact Nat.lt_succ_self _
    · rcases List.mem_cons.mp hd with rfl | hd
      · exact Nat.lt_succ_of_lt (Nat.lt_succ_self _)
      · cases hd
  · have hold : ∀ d o, s.heap.get? d = some o → h'.get? d = some o := fun d o e => by
      refine hk d o (fun hm => ?_) (Heap.get?_push_of_some _ (Heap.get?_push_of_some _ e))
      rcases List.mem_cons.mp hm with e1 | hm
      · have := Heap.lt_size e; rw [e1, hsz] at this; exact Nat.lt_irrefl _ (Nat.lt_of_succ_lt this)
      · cases hm
    have := h h' tk hold
    have hv : v = if PySem.Flt.ltV a b then (if PySem.Flt.ltV b c then c else b) else (if PySem.Flt.ltV a c then c else a) := by
      cases h1 : PySem.Flt.ltV a b <;> cases h2 : PySem.Flt.ltV b c <;> cases h3 : PySem.Flt.ltV a c <;> simp [argBest, h1, h2, h3] at hP <;> simp [hP]
    rw [hv]; exact this
theorem min3 {prog : Program} {w : World} {A : Around} {E : Value → Shared → Prop} {s : Shared} {Q : Value → Shared → Prop} {a b c : Value} (hh : A.handled = none) (ha : PySem.Flt.NumV a) (hb : PySem.Flt.NumV b) (hc : PySem.Flt.NumV c)
    (h : ∀ h' tk, (∀ c o, s.heap.get? c = some o → h'.get? c = some o) → Q (if PySem.Flt.ltV b a then (if PySem.Flt.ltV c b then c else b) else (if PySem.Flt.ltV c a then c else a)) { s with heap := h', toks := tk }) :
    wpAny (model prog w) A (call (.builtin "min") [a, b, c]) Q E s := by
  have hT : (s.heap.push { cls := .type "tuple", data := .seq #[a, b, c] }).IsTuple s.heap.objs.size #[a, b, c] := ⟨_, Heap.get?_push_size _ rfl, rfl, 0, rfl⟩
  refine call_min_three (wpAny_pyIter_tuple hT ?_)
  have hsz : (s.heap.push { cls := .type "tuple", data := .seq #[a, b, c] }).objs.size = s.heap.objs.size + 1 := Heap.size_push ..
  refine ⟨_, [_, s.heap.objs.size], [_], _, _, _, _, rfl, Walks.tuple (A := A.in1) hh _ s.heap.objs.size (by rw [hsz]; exact Nat.ne_of_lt (Nat.lt_succ_self _)) #[a, b, c],
    ⟨⟨_, Heap.get?_push_size _ rfl, rfl, rfl⟩, hT.push _⟩, fun d hd => ?_, by simp, PySem.Flt.cmpOf_lt #[a, b, c] (by simp [ha, hb, hc]), fun v h' tk hP hk => ?_⟩
  · show d < ((s.heap.push _).push _).objs.size
    rw [Heap.size_push, hsz]
    rcases List.mem_cons.mp hd with rfl | hd
    · rw [hsz]; exact Nat.lt_succ_self _
    · rcases List.mem_cons.mp hd with rfl | hd
      · exact Nat.lt_succ_of_lt (Nat.lt_succ_self _)
      · cases hd
  · have hold : ∀ d o, s.heap.get? d = some o → h'.get? d = some o := fun d o e => by
      refine hk d o (fun hm => ?_) (Heap.get?_push_of_some _ (Heap.get?_push_of_some _ e))
      rcases List.mem_cons.mp hm with e1 | hm
      · have := Heap.lt_size e; rw [e1, hsz] at this; exact Nat.lt_irrefl _ (Nat.lt_of_succ_lt this)
      · cases hm
    have := h h' tk hold
    have hv : v = if PySem.Flt.ltV b a then (if PySem.Flt.ltV c b then c else b) else (if PySem.Flt.ltV c a then c else a) := by
      cases h1 : PySem.Flt.ltV b a <;> cases h2 : PySem.Flt.ltV c b <;> cases h3 : PySem.Flt.ltV c a <;> simp [argBest, h1, h2, h3] at hP <;> simp [hP]
    rw [hv]; exact this
section
variable {C : Cx} {A : Around} {L : Addr} {m : Loc} {H : HS} {Q : AV → HS → Prop}
/- less, of two numbers of one kind -/
noncomputable def ltN : AV → AV → Bool
  | .int a, .int b => decide (a < b)
  | .flt a, .flt b => Float64.cmp a b == some .lt
  | _, _ => false
inductive isN : AV → AV → AV → Prop where
  | int {a b c : Int} : isN (.int a) (.int b) (.int c)
  | flt {a b c : UInt64} : isN (.flt a) (.flt b) (.flt c)
noncomputable def maxN (a b c : AV) : AV := if ltN a b then (if ltN b c then c else b) else (if ltN a c then c else a)
noncomputable def minN (a b c : AV) : AV := if ltN b a then (if ltN c b then c else b) else (if ltN c a then c else a)
theorem isN.num {a b c : AV} {V W X : Value} (h : isN a b c) (i : Is a V) (j : Is b W) (l : Is c X) : PySem.Flt.NumV V ∧ PySem.Flt.NumV W ∧ PySem.Flt.NumV X ∧ PySem.Flt.ltV V W = ltN a b ∧ PySem.Flt.ltV W X = ltN b c ∧ PySem.Flt.ltV V X = ltN a c ∧ PySem.Flt.ltV W V = ltN b a ∧ PySem.Flt.ltV X W = ltN c b ∧ PySem.Flt.ltV X V = ltN c a := by
  cases h with
  | int => obtain ⟨_, rfl⟩ := i.inv; obtain ⟨_, rfl⟩ := j.inv; cases l; exact ⟨.int _ _, .int _ _, .int _ _, rfl, rfl, rfl, rfl, rfl, rfl⟩
  | flt => obtain ⟨_, rfl⟩ := i.inv; obtain ⟨_, rfl⟩ := j.inv; cases l; exact ⟨.float _ _, .float _ _, .float _ _, rfl, rfl, rfl, rfl, rfl, rfl⟩
theorem CB.max3 {a b c : AV} (hh : A.handled = none) (hn : isN a b c) (h : Q (maxN a b c) H) : OPL C A (fun Vs => call (.builtin "max") Vs) [a, b, c] L m H Q :=
  .three fun V W X i j l F s Qc E S k => by
    obtain ⟨n1, n2, n3, e1, e2, e3, _⟩ := hn.num i j l
    refine Mine.max3 hh n1 n2 n3 fun h' tk hk => k _ _ _ _ ⟨_, H, rfl, ?_, h⟩ (S.grow hk)
    rw [e1, e2, e3]; unfold maxN
    split <;> split <;> assumption
theorem CB.min3 {a b c : AV} (hh : A.handled = none) (hn : isN a b c) (h : Q (minN a b c) H) : OPL C A (fun Vs => call (.builtin "min") Vs) [a, b, c] L m H Q :=
  .three fun V W X i j l F s Qc E S k => by
    obtain ⟨n1, n2, n3, _, _, _, e1, e2, e3⟩ := hn.num i j l
    refine Mine.min3 hh n1 n2 n3 fun h' tk hk => k _ _ _ _ ⟨_, H, rfl, ?_, h⟩ (S.grow hk)
    rw [e1, e2, e3]; unfold minN
    split <;> split <;> assumption
end

section
variable {C : Cx} {A : Around} {L : Addr} {m : Loc} {H : HS} {Q : AV → HS → Prop}
/- two numbers of one kind -/
inductive is2 : AV → AV → Prop where
  | int {a b : Int} : is2 (.int a) (.int b)
  | flt {a b : UInt64} : is2 (.flt a) (.flt b)
noncomputable def subN : AV → AV → AV
  | .int a, .int b => .int (a - b)
  | .flt a, .flt b => .flt (Float64.sub a b)
  | _, _ => .none
noncomputable def divN : AV → AV → UInt64
  | .int a, .int b => Float64.ofFrac (decide (a < 0) != decide (b < 0)) a.natAbs b.natAbs
  | .flt a, .flt b => Float64.div a b
  | _, _ => 0
noncomputable def divOk : AV → AV → Bool
  | .int a, .int b => decide (b ≠ 0) && !Float64.isInf (Float64.ofFrac (decide (a < 0) != decide (b < 0)) a.natAbs b.natAbs)
  | .flt _, .flt b => !Float64.isZero b
  | _, _ => false
noncomputable def eqN : AV → AV → Bool
  | .int a, .int b => a == b
  | .flt a, .flt b => Float64.cmp a b == some Ordering.eq
  | _, _ => false
theorem OP.subN {a b : AV} (hk : is2 a b) (h : Q (Mine.subN a b) H) : OP2 C A (binaryOp .Sub) a b L m H Q := by
  cases hk
  · exact OP.sub h
  · exact OP.subf h
theorem OP.divN {a b : AV} (hi : is2 a b) (hk : divOk a b = true) (h : Q (.flt (Mine.divN a b)) H) : OP2 C A (binaryOp .Div) a b L m H Q := by
  cases hi
  · simp only [divOk, Bool.and_eq_true, decide_eq_true_eq, Bool.not_eq_true'] at hk
    exact OP.divi hk.1 hk.2 h
  · simp only [divOk, Bool.not_eq_true'] at hk
    exact OP.divf hk h
theorem OP.eqN {a b : AV} (hk : is2 a b) (h : Q (.bool (Mine.eqN a b)) H) : OP2 C A (compareOp .Eq) a b L m H Q := by
  cases hk
  · exact OP.eqi h
  · exact OP.eqf h
end

/- two pairs of ints, the lesser -/
noncomputable def pairLt (p q : Int × Int) : Bool := if p.1 = q.1 then decide (p.2 < q.2) else decide (p.1 < q.1)
theorem rc_lt {prog : Program} {w : World} {A : Around} {s : Shared} {E : Value → Shared → Prop} {a b : Int} {t u : Tok} {Q : Value → Shared → Prop} (h : Q (.bool (decide (a < b))) s) : wpAny (model prog w) A (richCompare .Lt (.int a t) (.int b u)) Q E s :=
  PyProof.Rows.lt_int h
noncomputable def lexZ : List ((Int × Tok) × (Int × Tok)) → Bool
  | [] => false
  | z :: r => if z.1.1 = z.2.1 then lexZ r else decide (z.1.1 < z.2.1)
theorem tup_lt (l b : Addr) (p q : Int × Int) (t1 t2 t3 t4 : Tok) (n n2 : Nat) :
    Meets (Builtin.«tuple.__lt__» ⟨[.ref l, .ref b], []⟩)
      (fun A R s => s.heap.get? l = some { cls := .type "tuple", data := .seq #[.int p.1 t1, .int p.2 t2] n } ∧ s.heap.get? b = some { cls := .type "tuple", data := .seq #[.int q.1 t3, .int q.2 t4] n2 } ∧
        R (.ok (.ret (.bool (pairLt p q)))) s) :=
  .of_wp fun prog w A R s h => by
    obtain ⟨hp, g, d, tk, os⟩ := s; obtain ⟨hl, hb, h⟩ := h
    have f2 := AutoSeq1.sub_tuple_tuple
    wp_walk using wpAny_loadPart' hl, wpAny_loadPart' hb, wpAny_forIn_list _ (fun rest b s' => b.1 = none ∧ s' = ⟨hp, g, d, tk, os⟩ ∧ ∃ xs : List ((Int × Tok) × (Int × Tok)), rest = xs.map (fun z => (Value.int z.1.1 z.1.2, Value.int z.2.1 z.2.2)) ∧
      R (.ok (.ret (.bool (lexZ xs)))) ⟨hp, g, d, tk, os⟩) _
    case turn =>
      rintro ⟨y, x⟩ rest b s' ⟨hb', rfl, xs, hz, hR⟩
      cases xs with
      | nil => cases hz
      | cons z xs =>
        rw [List.map_cons] at hz
        injection hz with hyx hrest
        injection hyx with hy hx
        subst hy hx
        rw [lexZ] at hR
        refine wpAny_bind (wpAny_eqBool_int ?_)
        by_cases h1 : z.1.1 = z.2.1
        · have b1 : (z.1.1 == z.2.1) = true := beq_iff_eq.mpr h1
          rw [if_pos h1] at hR
          rw [b1]
          wp_walk
          exact ⟨rfl, rfl, xs, hrest, hR⟩
        · have b1 : (z.1.1 == z.2.1) = false := beq_eq_false_iff_ne.mpr h1
          rw [if_neg h1] at hR
          rw [b1]
          wp_walk using rc_lt
          exact ⟨_, rfl, hR⟩
    case fin =>
      rintro ⟨b1, b2⟩ s' ⟨hb', rfl, xs, hz, hR⟩
      simp only at hb'
      subst hb'
      cases xs with
      | cons z xs => cases hz
      | nil =>
        wp_walk
        exact ⟨_, rfl, hR⟩
    case h =>
      refine ⟨rfl, rfl, [((p.1, t1), (q.1, t3)), ((p.2, t2), (q.2, t4))], rfl, ?_⟩
      have : lexZ [((p.1, t1), (q.1, t3)), ((p.2, t2), (q.2, t4))] = pairLt p q := by
        simp only [lexZ, pairLt]
        by_cases h2 : p.2 = q.2
        · rw [if_pos h2, decide_eq_false (show ¬ p.2 < q.2 by lia)]
        · rw [if_neg h2]
      rw [this]; exact h
theorem rc_tup {prog : Program} {w : World} {A : Around} {s : Shared} {E : Value → Shared → Prop} {l b : Addr} {p q : Int × Int} {t1 t2 t3 t4 : Tok} {n n2 : Nat} {Q : Value → Shared → Prop}
    (h1 : s.heap.get? l = some { cls := .type "tuple", data := .seq #[.int p.1 t1, .int p.2 t2] n }) (h2 : s.heap.get? b = some { cls := .type "tuple", data := .seq #[.int q.1 t3, .int q.2 t4] n2 }) (hu : A.units < cLine)
    (h : Q (.bool (pairLt p q)) s) : wpAny (model prog w) A (richCompare .Lt (.ref l) (.ref b)) Q E s :=
  richCompare_meets_room (op := .Lt) ⟨_, h1, rfl⟩ ⟨_, h2, rfl⟩ F.slot_tuple_lt F.entry_tuple_lt (F.args_tuple_lt_2 _ _) (tup_lt l b p q t1 t2 t3 t4 n n2) ⟨h1, h2, show _ ≠ Value.notImplemented ∧ _ from ⟨nofun, h⟩⟩ hu
/- the heap holds these pairs of ints at these places -/
noncomputable def PairsAt (h : Heap) (rs : List Addr) (ps : List (Int × Int)) : Prop := ∀ (i : Nat) (a : Addr) (p : Int × Int), rs[i]? = some a → ps[i]? = some p → ∃ t1 t2 n, h.get? a = some { cls := .type "tuple", data := .seq #[.int p.1 t1, .int p.2 t2] n }
noncomputable def bestAt (ps : List (Int × Int)) (j : Nat) : Nat := argBest (fun i k => pairLt (ps.getD i (0, 0)) (ps.getD k (0, 0))) j
section
variable {prog : Program} {w : World} {A : Around} {R : Result → Shared → Prop}
/- the turn of min over a list of pairs -/
theorem min_turn {I l S : Addr} {rs : List Addr} {ps : List (Int × Int)} (hh : A.handled = none) (hu : A.in1.units < cLine) (hlen : ps.length = rs.length) (hI : I ∉ rs) (hS : S ∉ rs) (hlI : l ≠ I) (hSI : S ≠ I) (hSl : S ≠ l) :
    ∀ (k j : Nat) (s : Shared) (x : Addr) (c : Nat), rs.length - (j + 1) = k → j + 1 ≤ rs.length → s.heap.IsListIter I l (j + 1) → s.heap.IsList l (rs.map Value.ref).toArray → PairsAt s.heap rs ps → rs[bestAt ps j]? = some x →
    s.heap.get? S = some { cls := .type "list", dict := none, data := .seq #[.ref x, .ref x] c, slots := #[] } →
    (∀ x h' tk, rs[bestAt ps (rs.length - 1)]? = some x → (∀ b o, b ≠ I → b ≠ S → s.heap.get? b = some o → h'.get? b = some o) → R (.ok (.ret (.ref x))) { s with heap := h', toks := tk }) →
    codeAny (model prog w) A (.builtin "min.loop" ⟨[.ref I, .none, .ref S], []⟩) R s := by
  have W := Walks.list (prog := prog) (w := w) (A := A.in1) hh I l hlI (rs.map Value.ref).toArray
  have hname : (toString "min" ++ toString ".loop" : String) = "min.loop" := by decide
  have hw : ∀ b, b ≠ I → b ∉ ([I] : List Addr) := fun b h => by simpa using h
  intro k
  induction k with
  | zero =>
    intro j s x c hk hj hit hl hP hx hS' hR
    have hin : j + 1 = rs.length := by lia
    refine codeAny_builtin F.entry_min_loop ?_
    rw [Around.under_plainId F.plain_min_loop _]
    show wpAny _ A.in1 (seqItems? (.ref S) >>= _) _ _ s
    refine wpAny_bind (wpAny_seqItems hS' rfl ?_)
    show wpAny _ A.in1 (tryCatch (pyNext (.ref I)) _ >>= _) _ _ s
    refine wpAny_bind (wpAny_tryCatch (W.done s _ _ (by rw [List.size_toArray, List.length_map, ← hin]; exact ⟨hit, hl⟩) fun h' tk hk' => ?_))
    show wpAny _ A.in1 (updateSeq S (fun _ => #[]) >>= _) _ _ _
    refine wpAny_bind (wpAny_updateSeq (hk' S _ (hw S hSI) hS') rfl (wpAny_bind (wpAny_letGo (wpAny_pure ?_))))
    exact hR x _ tk (by rw [← hin]; exact hx) fun b o hb hbS e => (Heap.get?_update_other _ _ (Ne.symm hbS)).trans (hk' b o (hw b hb) e)
  | succ k ih =>
    intro j s x c hk hj hit hl hP hx hS' hR
    have hlt : j + 1 < rs.length := by omega
    refine codeAny_builtin F.entry_min_loop ?_
    rw [Around.under_plainId F.plain_min_loop _]
    show wpAny _ A.in1 (seqItems? (.ref S) >>= _) _ _ s
    refine wpAny_bind (wpAny_seqItems hS' rfl ?_)
    show wpAny _ A.in1 (tryCatch (pyNext (.ref I)) _ >>= _) _ _ s
    refine wpAny_bind (wpAny_tryCatch (W.item (j + 1) s _ _ (by rw [List.size_toArray, List.length_map]; exact hlt) ⟨hit, hl⟩ fun v h' tk hv hst' hk' => ?_))
    have hS2 := hk' S _ (hw S hSI) hS'
    have hP2 : PairsAt h' rs ps := fun i a p h1 h2 => by
      obtain ⟨t1, t2, n, e⟩ := hP i a p h1 h2
      exact ⟨t1, t2, n, hk' a _ (hw a fun e' => hI (e' ▸ List.mem_of_getElem? h1)) e⟩
    obtain ⟨y, hy, rfl⟩ : ∃ y, rs[j + 1]? = some y ∧ v = .ref y := by
      rw [List.getElem?_toArray, List.getElem?_map] at hv
      cases e : rs[j + 1]? with
      | none => rw [e] at hv; cases hv
      | some y => rw [e] at hv; exact ⟨y, rfl, (Option.some.inj hv).symm⟩
    have gp : ∀ (i : Nat) (a : Addr), rs[i]? = some a → ps[i]? = some (ps.getD i (0, 0)) := fun i a e => by
      have : i < ps.length := by rw [hlen]; exact (List.getElem?_eq_some_iff.mp e).1
      rw [List.getD_eq_getElem?_getD, List.getElem?_eq_getElem this]; rfl
    obtain ⟨t1, t2, n, e1⟩ := hP2 _ _ _ hy (gp _ _ hy)
    obtain ⟨t3, t4, n2, e2⟩ := hP2 _ _ _ hx (gp _ _ hx)
    show wpAny _ A.in1 (tryCatch (holding [.ref y, .ref y] (richCompare .Lt (.ref y) (.ref x) >>= _)) _ >>= _) _ _ _
    refine wpAny_bind (wpAny_tryCatch (wpAny_holding (wpAny_bind (rc_tup e1 e2 hu ?_))))
    refine wpAny_bind (wpAny_holding (wpAny_truthy_bool ?_))
    refine wpAny_bind (wpAny_letGo (wpAny_pure ?_))
    cases hb : pairLt (ps.getD (j + 1) (0, 0)) (ps.getD (bestAt ps j) (0, 0)) with
    | true =>
      simp only [if_true]
      have hup : ∀ b ∈ [I, l], ∀ o, h'.get? b = some o → (h'.update S (Obj.mapSeq fun _ => #[.ref y, .ref y])).get? b = some o := fun b hb o e =>
        (Heap.get?_update_other _ _ (fun e' : S = b => by
          subst e'
          rcases List.mem_cons.mp hb with e' | hb
          · exact hSI e'
          · rcases List.mem_cons.mp hb with e' | hb
            · exact hSl e'
            · cases hb)).trans e
      refine wpAny_bind (wpAny_updateSeq hS2 rfl (wpAny_bind (wpAny_letGo ?_)))
      rw [hname]
      refine wpAny_pure ⟨plainId_quiet F.plain_min_loop _, ih (j + 1) _ y _ (by omega) hlt ?_ ?_ ?_ ?_ (Heap.get?_update_self _ hS2 rfl) fun x' h'' tk'' hx' hk'' => ?_⟩
      · exact (W.frame (j + 2) _ _ hst' hup).1
      · exact (W.frame (j + 2) _ _ hst' hup).2
      · exact fun i a p h1 h2 => by
          obtain ⟨t1, t2, n, e⟩ := hP2 i a p h1 h2
          exact ⟨t1, t2, n, (Heap.get?_update_other _ _ (fun e' : S = a => hS (e' ▸ List.mem_of_getElem? h1))).trans e⟩
      · show rs[argBest _ (j + 1)]? = _
        rw [argBest]
        unfold bestAt at hb
        rw [hb, if_pos rfl]; exact hy
      · exact hR x' h'' tk'' hx' fun b o hbI hbS e => hk'' b o hbI hbS ((Heap.get?_update_other _ _ (Ne.symm hbS)).trans (hk' b o (hw b hbI) e))
    | false =>
      simp only [Bool.false_eq_true, if_false]
      refine wpAny_bind (wpAny_letGo ?_)
      rw [hname]
      refine wpAny_pure ⟨plainId_quiet F.plain_min_loop _, ih (j + 1) _ x c (by omega) hlt ?_ ?_ ?_ ?_ hS2 fun x' h'' tk'' hx' hk'' => ?_⟩
      · exact hst'.1
      · exact hst'.2
      · exact hP2
      · show rs[argBest _ (j + 1)]? = _
        rw [argBest]
        unfold bestAt at hb
        rw [hb, if_neg (by decide)]; exact hx
      · exact hR x' h'' tk'' hx' fun b o hbI hbS e => hk'' b o hbI hbS (hk' b o (hw b hbI) e)
/- min of a list of pairs -/
theorem min_pairs {E : Value → Shared → Prop} {s : Shared} {Q : Value → Shared → Prop} {l : Addr} {rs : List Addr} {ps : List (Int × Int)} (hh : A.handled = none) (hu : A.in1.units < cLine) (hlen : ps.length = rs.length) (hne : 0 < rs.length)
    (hl : s.heap.IsList l (rs.map Value.ref).toArray) (hP : PairsAt s.heap rs ps)
    (h : ∀ x h' tk, rs[bestAt ps (rs.length - 1)]? = some x → (∀ b o, s.heap.get? b = some o → h'.get? b = some o) → Q (.ref x) { s with heap := h', toks := tk }) :
    wpAny (model prog w) A (call (.builtin "min") [.ref l]) Q E s := by
  have hname : (toString "min" ++ toString ".loop" : String) = "min.loop" := by decide
  have hl' : l < s.heap.objs.size := by obtain ⟨o, e, _⟩ := hl; exact Heap.lt_size e
  have hr' : ∀ a ∈ rs, a < s.heap.objs.size := fun a ha => by
    obtain ⟨i, hi, rfl⟩ := List.getElem_of_mem ha
    obtain ⟨t1, t2, n, e⟩ := hP i _ (ps.getD i (0, 0)) (List.getElem?_eq_getElem hi) (by rw [List.getD_eq_getElem?_getD, List.getElem?_eq_getElem (by lia)]; rfl)
    exact Heap.lt_size e
  refine call_function_tree F.kind_min F.plain_min F.entry_min (F.args_min1 _) ?_
  show wpAny _ A.in1 (Builtin.Builtins.bindParams "min" ["key", "default"] 0 ⟨[], []⟩ >>= _) _ _ s
  refine wpAny_bind (wpAny_of_eq (show Builtin.Builtins.bindParams "min" ["key", "default"] 0 ⟨[], []⟩ = pure [none, none] from rfl) ?_)
  refine wpAny_bind (wpAny_pure ?_)
  refine wpAny_bind (wpAny_pyIter_list hl ?_)
  refine wpAny_bind (wpAny_newObj_type ?_)
  rw [hname]
  refine wpAny_pure ⟨plainId_quiet F.plain_min_loop _, ?_⟩
  generalize hI : s.heap.objs.size = I at hl' hr' ⊢
  have hIs : (s.heap.push { cls := .type "list_iterator", data := .fields #[.ref l, .int 0 0] }).objs.size = I + 1 := by rw [Heap.size_push, hI]
  have hlI : l ≠ I := Nat.ne_of_lt hl'
  have hIr : I ∉ rs := fun h => Nat.lt_irrefl _ (hr' _ h)
  have hSr : I + 1 ∉ rs := fun h => Nat.lt_irrefl _ (Nat.lt_trans (Nat.lt_succ_self _) (hr' _ h))
  have W := Walks.list (prog := prog) (w := w) (A := A.in1) hh I l hlI (rs.map Value.ref).toArray
  have hw : ∀ b, b ≠ I → b ∉ ([I] : List Addr) := fun b h => by simpa using h
  rw [hIs]
  have keep0 : ∀ b o, s.heap.get? b = some o → (s.heap.push { cls := .type "list_iterator", data := .fields #[.ref l, .int 0 0] }).get? b = some o := fun b o e => Heap.get?_push_of_some _ e
  have it0 : (s.heap.push { cls := .type "list_iterator", data := .fields #[.ref l, .int 0 0] }).IsListIter I l 0 := ⟨_, by rw [← hI]; exact Heap.get?_push_size _ rfl, rfl, rfl⟩
  have hl0 : (s.heap.push { cls := .type "list_iterator", data := .fields #[.ref l, .int 0 0] }).IsList l (rs.map Value.ref).toArray := by obtain ⟨o, e, r⟩ := hl; exact ⟨o, keep0 _ _ e, r⟩
  generalize (s.heap.push { cls := .type "list_iterator", data := .fields #[.ref l, .int 0 0] }) = h1 at hIs keep0 it0 hl0 ⊢
  have hS1 : (h1.push { cls := .type "list", data := .seq [].toArray }).get? (I + 1) = some { cls := .type "list", data := .seq #[] 0 } := by rw [← hIs]; exact Heap.get?_push_size _ rfl
  refine codeAny_builtin F.entry_min_loop ?_
  rw [Around.under_plainId F.plain_min_loop _]
  show wpAny _ A.in1 (seqItems? (.ref (I + 1)) >>= _) _ _ _
  refine wpAny_bind (wpAny_seqItems hS1 rfl ?_)
  show wpAny _ A.in1 (tryCatch (pyNext (.ref I)) _ >>= _) _ _ _
  refine wpAny_bind (wpAny_tryCatch (W.item 0 _ _ _ (by rw [List.size_toArray, List.length_map]; exact hne) (W.frame 0 h1 _ ⟨it0, hl0⟩ fun b _ o e => Heap.get?_push_of_some _ e) fun v h' tk hv hst' hk' => ?_))
  have hS2 := hk' (I + 1) _ (hw (I + 1) (Nat.succ_ne_self I)) hS1
  obtain ⟨y, hy, rfl⟩ : ∃ y, rs[0]? = some y ∧ v = .ref y := by
    rw [List.getElem?_toArray, List.getElem?_map] at hv
    cases e : rs[0]? with
    | none => rw [e] at hv; cases hv
    | some y => rw [e] at hv; exact ⟨y, rfl, (Option.some.inj hv).symm⟩
  have hP2 : PairsAt h' rs ps := fun i a p x1 x2 => by
    obtain ⟨t1, t2, n, e⟩ := hP i a p x1 x2
    exact ⟨t1, t2, n, hk' a _ (hw a fun e' => hIr (e' ▸ List.mem_of_getElem? x1)) (Heap.get?_push_of_some _ (keep0 _ _ e))⟩
  show wpAny _ A.in1 (updateSeq (I + 1) (fun _ => #[.ref y, .ref y]) >>= _) _ _ _
  refine wpAny_bind (wpAny_updateSeq hS2 rfl ?_)
  rw [hname]
  have hSl : I + 1 ≠ l := fun e => Nat.lt_irrefl _ (Nat.lt_trans (Nat.lt_succ_self _) (e ▸ hl'))
  have hup : ∀ b ∈ [I, l], ∀ o, h'.get? b = some o → (h'.update (I + 1) (Obj.mapSeq fun _ => #[.ref y, .ref y])).get? b = some o := fun b hb o e =>
    (Heap.get?_update_other _ _ (fun e' : I + 1 = b => by
      subst e'
      rcases List.mem_cons.mp hb with e' | hb
      · exact Nat.succ_ne_self I e'
      · rcases List.mem_cons.mp hb with e' | hb
        · exact hSl e'
        · cases hb)).trans e
  refine wpAny_pure ⟨plainId_quiet F.plain_min_loop _, min_turn (l := l) (rs := rs) (ps := ps) hh hu hlen hIr hSr hlI (Nat.succ_ne_self I) hSl _ 0 _ y _ rfl hne (W.frame 1 _ _ hst' hup).1 (W.frame 1 _ _ hst' hup).2 ?_ hy (Heap.get?_update_self _ hS2 rfl) fun x h'' tk'' hx hk'' => ?_⟩
  · exact fun i a p x1 x2 => by
      obtain ⟨t1, t2, n, e⟩ := hP2 i a p x1 x2
      exact ⟨t1, t2, n, (Heap.get?_update_other _ _ (fun e' : I + 1 = a => hSr (e' ▸ List.mem_of_getElem? x1))).trans e⟩
  · refine h x h'' tk'' hx fun b o e => ?_
    have hb : b < I := hI ▸ Heap.lt_size e
    have n1 : b ≠ I := Nat.ne_of_lt hb
    have n2 : b ≠ I + 1 := Nat.ne_of_lt (Nat.lt_succ_of_lt hb)
    exact hk'' b o n1 n2 ((Heap.get?_update_other _ _ (Ne.symm n2)).trans (hk' b o (hw b n1) (Heap.get?_push_of_some _ (keep0 _ _ e))))
section
variable {C : Cx} {L : Addr} {m : Loc} {H : HS} {Q : AV → HS → Prop}
theorem CB.minPairs {l : Addr} {rs : List Addr} {ps : List (Int × Int)} (hh : A.handled = none) (hu : A.in1.units < cLine) (hm : (l, AO.list (rs.map .ref)) ∈ H) (hlen : ps.length = rs.length) (hne : 0 < rs.length)
    (hP : ∀ (i : Nat) (a : Addr) (p : Int × Int), rs[i]? = some a → ps[i]? = some p → (a, AO.tup [.int p.1, .int p.2]) ∈ H)
    (h : ∀ x, rs[bestAt ps (rs.length - 1)]? = some x → Q (.ref x) H) : OPL C A (fun Vs => call (.builtin "min") Vs) [.ref l] L m H Q :=
  .one fun V i F s Qc E S k => by
    obtain ⟨_, rfl⟩ := i.inv
    obtain ⟨vs, n, e, r⟩ := S.list (List.mem_append_left F (.tail _ hm))
    have hvs : vs = (rs.map Value.ref).toArray := by
      have : ∀ (rs : List Addr) (vs : List Value), All2 (rs.map AV.ref) vs → vs = rs.map Value.ref := fun rs => by
        induction rs with
        | nil => intro vs h; cases vs with
          | nil => rfl
          | cons _ _ => exact h.elim
        | cons a rs ih => intro vs h; cases vs with
          | nil => exact h.elim
          | cons v vs =>
            obtain ⟨h1, h2⟩ := h
            cases h1
            rw [ih vs h2]; rfl
      have := this rs vs.toList r
      rw [← this]
    subst hvs
    refine min_pairs (rs := rs) (ps := ps) hh hu hlen hne (isList_of e) (fun i a p x1 x2 => ?_) fun x h' tk hx hk => k _ _ _ _ ⟨_, H, rfl, .ref _, h x hx⟩ (S.grow hk)
    obtain ⟨ws, n2, e2, r2⟩ := S.tup (List.mem_append_left F (.tail _ (hP i a p x1 x2)))
    obtain ⟨ws⟩ := ws
    rcases ws with _ | ⟨w1, _ | ⟨w2, _ | ⟨w3, ws⟩⟩⟩
    · exact r2.elim
    · exact r2.2.elim
    · obtain ⟨i1, i2, _⟩ := r2
      cases i1; cases i2
      exact ⟨_, _, _, e2⟩
    · exact r2.2.2.elim
end
end

section
open PySem.Builtin.Re
/- patterns -/
theorem slot_re_search : Slot "re.Pattern" "search" "re.Pattern.search" :=
  .of (owner := "re.Pattern") (n := "search") (by rw [typeLookup_type, builtinLookup_eq_fast]; kernel_rfl) (by decide +kernel) (by decide +kernel) (by decide +kernel)
    (by first | exact .inl (by decide +kernel) | exact .inr (by decide +kernel)) (by rw [isSubtype_type]; kernel_rfl)
theorem slot_re_sub : Slot "re.Pattern" "sub" "re.Pattern.sub" :=
  .of (owner := "re.Pattern") (n := "sub") (by rw [typeLookup_type, builtinLookup_eq_fast]; kernel_rfl) (by decide +kernel) (by decide +kernel) (by decide +kernel)
    (by first | exact .inl (by decide +kernel) | exact .inr (by decide +kernel)) (by rw [isSubtype_type]; kernel_rfl)
theorem type_re_search : typeOf (.builtin "re.Pattern.search") = pure (.type "method_descriptor") := by show builtinType _ = _; rw [builtinType_eq_fast]; kernel_rfl
theorem type_re_sub : typeOf (.builtin "re.Pattern.sub") = pure (.type "method_descriptor") := by show builtinType _ = _; rw [builtinType_eq_fast]; kernel_rfl
theorem entry_re_search : entryFor table "re.Pattern.search" = some Builtin.«re.Pattern.search» := entryFor_of_tree (by kernel_rfl)
theorem entry_re_sub : entryFor table "re.Pattern.sub" = some Builtin.«re.Pattern.sub» := entryFor_of_tree (by kernel_rfl)
theorem entry_re_loop : entryFor table "re.Pattern.sub.loop" = some Builtin.«re.Pattern.sub.loop» := entryFor_of_tree (by kernel_rfl)
theorem args_re_search (a b : Value) : argsOk "re.Pattern.search" ⟨[a, b], []⟩ := by unfold argsOk; kernel_rfl
theorem args_re_sub (a b c : Value) : argsOk "re.Pattern.sub" ⟨[a, b, c], []⟩ := by unfold argsOk; kernel_rfl
theorem plainAttrs_re : PlainAttrs "re.Pattern" := ⟨⟨"object.__getattribute__", by rw [typeLookup_type, builtinLookup_eq_fast]; kernel_rfl, by decide +kernel⟩, by rw [typeLookup_type, builtinLookup_eq_fast]; kernel_rfl⟩

noncomputable def driveP : Nat → Sre.M → Option Sre.M
  | 0, _ => none
  | t + 1, m => if (m.runFor 4).outcome.isSome = true then some (m.runFor 4) else driveP t (m.runFor 4)
set_option tactic.hygienic true in
theorem drive_is {M : Model} {A : Around} {E : Value → Shared → Prop} {s : Shared} {Q : Sre.M → Shared → Prop} {m' : Sre.M} (hq : Q m' s) : ∀ (t : Nat) (m : Sre.M) (turns : Nat), driveP t m = some m' → t ≤ turns → wpAny M A (reDrive turns m) Q E s
  | 0, m, turns, h, _ => by cases h
  | t + 1, m, 0, h, ht => absurd ht (by lia)
  | t + 1, m, turns + 1, h, ht => by
    rw [driveP] at h
    show wpAny M A (if (m.runFor reTurnSteps).outcome.isSome = true then pure (m.runFor reTurnSteps) else _) Q E s
    rw [show reTurnSteps = 4 from rfl]
    split at h
    · rename_i hc
      cases h
      rw [if_pos hc]
      exact wpAny_pure hq
    · rename_i hc
      rw [if_neg hc]
      exact wpAny_bind (wpAny_rule (drive_is hq t _ turns h (by lia)))
theorem run_end {M : Model} {A : Around} {E : Value → Shared → Prop} {s : Shared} {Q : Option Sre.M → Shared → Prop} {t : Nat} {m m' : Sre.M} (h : driveP t m = some m') (ht : t ≤ 1000)
    (hq : match m'.outcome with | some .matched => Q (some m') s | some .failed => Q none s | _ => False) : wpAny M A (reRunToEnd m) Q E s := by
  unfold reRunToEnd
  refine wpAny_bind (drive_is ?_ t m (2 ^ 64) h (Nat.le_trans ht (by decide)))
  refine wpAny_bind ?_
  refine wpAny_forIn_list _ (fun _ _ s' => s' = s) _ (fun i rest b s' e => ?_) (fun b s' e => ?_) _ _ rfl
  · subst e
    by_cases hc : m'.seen.has i = true
    · simp only [hc, if_true]
      exact wpAny_bind (wpAny_rule (wpAny_pure rfl))
    · rw [if_neg hc]
      exact wpAny_pure rfl
  · subst e
    cases ho : m'.outcome with
    | none => rw [ho] at hq; exact hq.elim
    | some o =>
      rw [ho] at hq
      cases o with
      | matched => exact wpAny_pure hq
      | failed => exact wpAny_pure hq
      | stuck w => exact hq.elim
/- what a pattern finds in a text: nothing, or a part of it -/
noncomputable def reFind (code text : List Nat) (start : Nat) : Option (Option (Nat × Nat)) := (driveP 300 (Sre.forSearch code.toArray text.toArray 0 start text.length false)).bind fun m => match m.outcome with
  | some .matched => some (some (m.start, m.handed))
  | some .failed => some none
  | _ => none
/- a pattern of strs without groups -/
noncomputable def PatAt (h : Heap) (a : Addr) (code : List Nat) : Prop := ∃ (fs : Array Value) (T : Addr) (ws : Array Value) (n : Nat), h.get? a = some { cls := .type "re.Pattern", data := .fields fs } ∧ fs.getD 5 .none = .ref T ∧ reRawNat (fs.getD 2 .none) = 0 ∧ reRawNat (fs.getD 6 .none) = 0 ∧
    h.get? T = some { cls := .type "tuple", data := .seq ws n } ∧ ((ws.map reRawOf).map (·.toNat)).toList = code
set_option tactic.hygienic true in
theorem find_drive {code : List Nat} {x : Str} {start : Nat} {r : Option (Nat × Nat)} (h : reFind code x.cps.toList start = some r) :
    ∃ m, driveP 300 (Sre.forSearch code.toArray x.cps 0 start x.cps.size false) = some m ∧ (match r with | none => m.outcome = some .failed | some p => m.outcome = some .matched ∧ m.start = p.1 ∧ m.handed = p.2) := by
  unfold reFind at h
  obtain ⟨m, h1, h2⟩ := Option.bind_eq_some_iff.mp h
  refine ⟨m, by simpa using h1, ?_⟩
  split at h2
  · rename_i e; cases h2; exact ⟨e, rfl, rfl⟩
  · rename_i e; cases h2; exact e
  · cases h2
theorem target_is {M : Model} {A : Around} {E : Value → Shared → Prop} {s : Shared} {Q : ReTarget → Shared → Prop} {id f : String} {a : Addr} {code : List Nat} {x : Str} {t : Tok} (P : PatAt s.heap a code) (hsz : x.cps.size ≤ 1000)
    (hn : reNamed id f ["string", "pos", "endpos"] 1 [.str x t] [] = pure [some (.str x t), none, none])
    (h : Q ⟨.ref a, .str x t, code.toArray, x.cps, 0, 0, 0, x.cps.size⟩ s) : wpAny M A (reTarget id f ⟨[.ref a, .str x t], []⟩) Q E s := by
  obtain ⟨hp, g, d, tk, os⟩ := s
  obtain ⟨fs, T, ws, n, h1, h2, h3, h4, h5, h6⟩ := P
  have hc : ((ws.map reRawOf).map fun x => x.toNat) = code.toArray := by rw [← h6]
  have hl : min ((2 : Int) ^ 63 - 1).toNat x.cps.size = x.cps.size := Nat.min_eq_right (Nat.le_trans hsz (by decide))
  unfold reTarget
  dsimp only
  rw [hn]
  wp_walk
  rw [h4]
  wp_walk
  rw [h2]
  wp_walk
  show Q ⟨.ref a, .str x t, ((ws.map reRawOf).map fun x => x.toNat), x.cps, 0, reRawNat (fs.getD 2 .none), min (Int.toNat 0) x.cps.size, min ((2 : Int) ^ 63 - 1).toNat x.cps.size⟩ _
  rw [hc, h3, hl, show min (Int.toNat 0) x.cps.size = 0 from Nat.zero_min _]
  exact h
theorem search_none (a : Addr) (code : List Nat) (x : Str) (t : Tok) :
    Meets (Builtin.«re.Pattern.search» ⟨[.ref a, .str x t], []⟩)
      (fun A R s => PatAt s.heap a code ∧ x.cps.size ≤ 1000 ∧ reFind code x.cps.toList 0 = some none ∧ R (.ok (.ret .none)) s) :=
  .of_wp fun prog w A R s h => by
    obtain ⟨P, hsz, hf, h⟩ := h
    obtain ⟨m, hd, ho⟩ := find_drive hf
    unfold Builtin.«re.Pattern.search»
    refine wpAny_bind (target_is P hsz (by kernel_rfl) ?_)
    unfold reAnswer
    refine wpAny_bind (run_end hd (by decide) ?_)
    rw [ho]
    exact wpAny_pure ⟨_, rfl, h⟩
theorem whole_is {M : Model} {A : Around} {E : Value → Shared → Prop} {s : Shared} {Q : ReTarget → Shared → Prop} {a : Addr} {code : List Nat} {x : Str} {t : Tok} (P : PatAt s.heap a code)
    (h : Q ⟨.ref a, .str x t, code.toArray, x.cps, 0, 0, 0, x.cps.size⟩ s) : wpAny M A (reWholeTarget (.ref a) (.str x t)) Q E s := by
  obtain ⟨hp, g, d, tk, os⟩ := s
  obtain ⟨fs, T, ws, n, h1, h2, h3, h4, h5, h6⟩ := P
  have hc : ((ws.map reRawOf).map fun x => x.toNat) = code.toArray := by rw [← h6]
  unfold reWholeTarget
  wp_walk
  rw [h4]
  wp_walk
  rw [h2]
  wp_walk
  show Q ⟨.ref a, .str x t, ((ws.map reRawOf).map fun x => x.toNat), x.cps, 0, reRawNat (fs.getD 2 .none), 0, x.cps.size⟩ _
  rw [hc, h3]
  exact h
end

section
open PySem.Builtin.Re
noncomputable abbrev loopArgs (a : Addr) (x : Str) (t : Tok) (r : Str) (u : Tok) (n done : Int) (l : Addr) : Args := ⟨[.ref a, .str x t, .str r u, rawInt 0, rawInt 0, rawInt n, rawInt done, rawInt done, .bool false, .ref l, .bool false], []⟩
theorem next_is {M : Model} {A : Around} {E : Value → Shared → Prop} {s : Shared} {Q : Option Sre.M → Shared → Prop} {p q : Value} {code : List Nat} {x : Str} {done : Nat} {m : Sre.M} {kd ps : Nat}
    (hm : driveP 300 (Sre.forSearch code.toArray x.cps 0 done x.cps.size false) = some m)
    (hq : match m.outcome with | some .matched => Q (some m) s | some .failed => Q none s | _ => False) : wpAny M A (reNextFound ⟨p, q, code.toArray, x.cps, kd, 0, ps, x.cps.size⟩ (done : Int).toNat false) Q E s :=
  run_end hm (by decide) hq
theorem loop_none {prog : Program} {w : World} {A : Around} {R : Result → Shared → Prop} {s : Shared} {a l : Addr} {code : List Nat} {x r : Str} {t u : Tok} {n : Int} {done : Nat} {vs : Array Value} {k : Nat}
    (P : PatAt s.heap a code) (hl : s.heap.get? l = some { cls := .type "list", data := .seq vs k }) (hf : reFind code x.cps.toList done = some none) (hd : done < x.cps.size) (hsz : x.cps.size ≤ 1000) (hvs : vs.size ≤ 10)
    {ys : List Str} (hv : StrsAre vs.toList ys) (hok : ((ys ++ [(⟨x.cps.extract done x.cps.size⟩ : Str)]).map (·.length)).sum ≤ 10000)
    (h : ∀ h' tk t', Heap.SameBut l s.heap h' → R (.ok (.ret (.str (Txt.join ⟨x.cps.extract 0 0⟩ (ys ++ [⟨x.cps.extract done x.cps.size⟩])) t'))) { s with heap := h', toks := tk })
    : codeAny (model prog w) A (.builtin "re.Pattern.sub.loop" (loopArgs a x t r u n done l)) R s := by
  obtain ⟨m, hm, ho⟩ := find_drive hf
  simp only at ho
  refine codeAny_builtin entry_re_loop ?_
  unfold Builtin.«re.Pattern.sub.loop»
  refine wpAny_bind (whole_is P ?_)
  refine wpAny_bind (wpAny_pure (a := ()) ?_)
  refine wpAny_bind (next_is hm ?_)
  rw [ho]
  dsimp only
  rw [if_pos (show ((done : Int).toNat < x.cps.size) from hd)]
  have hsl : ∀ b e, ¬ ({ cps := x.cps.extract b e } : Str).length > sizeLine := fun b e => by
    show ¬ (x.cps.extract b e).size > sizeLine
    have : (x.cps.extract b e).size ≤ x.cps.size := by rw [Array.size_extract]; lia
    rw [sizeLine_eq]; lia
  show wpAny _ _ (mkStr ⟨x.cps.extract done x.cps.size⟩ >>= _) _ _ _
  refine wpAny_bind ?_
  unfold mkStr
  rw [if_neg (hsl _ _)]
  refine wpAny_bind (wpAny_fresh (wpAny_pure ?_))
  refine wpAny_bind (wpAny_updateSeq hl rfl ?_ (by rw [sizeLine_eq]; lia) (by rw [Array.size_push, sizeLine_eq]; lia))
  have hl2 := Heap.get?_update_self (Obj.mapSeq fun x_1 => x_1.push (.str ⟨x.cps.extract done x.cps.size⟩ s.toks)) hl rfl
  refine wpAny_bind ?_
  show wpAny _ _ (mkStr ⟨x.cps.extract 0 0⟩) _ _ _
  refine wpAny_mkStr ?_ (Nat.le_of_not_gt (hsl 0 0))
  refine wpAny_bind (wpAny_seqItems hl2 rfl ?_)
  dsimp only [Option.getD_some]
  rw [if_neg (by simp)]
  refine wpAny_bind ?_
  rw [if_pos (show ((0 : Nat) == 0) = true from rfl)]
  have hq : StrsAre (vs.push (.str ⟨x.cps.extract done x.cps.size⟩ s.toks)).toList (ys ++ [⟨x.cps.extract done x.cps.size⟩]) := by
    rw [Array.toList_push]
    have : ∀ (vs : List Value) (ys : List Str), StrsAre vs ys → StrsAre (vs ++ [.str ⟨x.cps.extract done x.cps.size⟩ s.toks]) (ys ++ [⟨x.cps.extract done x.cps.size⟩]) := fun vs ys q => by
      induction q with
      | nil => exact .cons _ _ .nil
      | cons a t _ ih => exact .cons _ _ ih
    exact this _ _ hv
  refine PyProof.Rows.join_list ⟨_, hl2, rfl, _, rfl⟩ hq ?_ fun t' kk => ?_
  · have : ({ cps := x.cps.extract 0 0 } : Str).length = 0 := by show (x.cps.extract 0 0).size = 0; simp
    rw [this]; lia
  · rw [if_neg (by decide)]
    exact wpAny_pure (h _ _ _ (Heap.SameBut.update ..))
theorem loop_first {prog : Program} {w : World} {A : Around} {R : Result → Shared → Prop} {s : Shared} {a l : Addr} {code : List Nat} {x r : Str} {t u : Tok} {e : Nat} {k : Nat}
    (P : PatAt s.heap a code) (hl : s.heap.get? l = some { cls := .type "list", data := .seq #[] k }) (hf : reFind code x.cps.toList 0 = some (some (0, e + 1)))
    (h : ∀ h' k', h'.get? l = some { cls := .type "list", data := .seq #[.str r u] k' } → Heap.SameBut l s.heap h' → codeAny (model prog w) A (.builtin "re.Pattern.sub.loop" (loopArgs a x t r u 1 (e + 1) l)) R { s with heap := h' })
    : codeAny (model prog w) A (.builtin "re.Pattern.sub.loop" (loopArgs a x t r u 0 0 l)) R s := by
  obtain ⟨m, hm, ho⟩ := find_drive hf
  simp only at ho
  obtain ⟨ho, hs, hh⟩ := ho
  refine codeAny_builtin entry_re_loop ?_
  unfold Builtin.«re.Pattern.sub.loop»
  refine wpAny_bind (whole_is P ?_)
  refine wpAny_bind (wpAny_pure (a := ()) ?_)
  refine wpAny_bind (next_is (done := 0) hm ?_)
  rw [ho]
  dsimp only
  rw [hs, hh]
  rw [if_neg (by decide), if_pos (show ((0 : Int) == 0) = true from rfl)]
  refine wpAny_bind (wpAny_pure ?_)
  rw [if_pos (by simp)]
  refine wpAny_bind (wpAny_updateSeq hl rfl ?_)
  refine wpAny_pure ⟨Code.quiet_builtin _ (by decide +kernel), ?_⟩
  exact h _ _ (Heap.get?_update_self _ hl rfl) (Heap.SameBut.update ..)
theorem str_call : typeLookup (.type "str") "__call__" = pure none := by rw [typeLookup_type, builtinLookup_eq_fast]; kernel_rfl
theorem sub_head {prog : Program} {w : World} {A : Around} {R : Result → Shared → Prop} {s : Shared} {a : Addr} {code : List Nat} {x r : Str} {t u : Tok}
    (P : PatAt s.heap a code) (hr : r.cps.contains 92 = false)
    (h : codeAny (model prog w) A (.builtin "re.Pattern.sub.loop" (loopArgs a x t r u 0 0 s.heap.objs.size)) R { s with heap := s.heap.push { cls := .type "list", data := .seq #[] } }) :
    wpAny (model prog w) A.in1 (Builtin.«re.Pattern.sub» ⟨[.ref a, .str r u, .str x t], []⟩) (fun fin s' => match fin with | .done f => R (.ok f) s' | .again c' => c'.quiet = true ∧ codeAny (model prog w) A c' R s') (fun e s' => R (.error e) s') s := by
  unfold Builtin.«re.Pattern.sub» reSubstitute
  dsimp only
  rw [show reNamed "re.Pattern.sub" "sub" ["repl", "string", "count"] 2 [Value.str r u, Value.str x t] [] = pure [some (.str r u), some (.str x t), none] by kernel_rfl]
  refine wpAny_bind (wpAny_pure ?_)
  refine wpAny_bind (wpAny_pure (a := (0 : Int)) ?_)
  refine wpAny_bind (wpAny_specialOf (typeIs_str _ _ _) str_call ?_)
  wp_walk using whole_is P
  rw [hr, if_pos (show (!false) = true from rfl)]
  refine wpAny_bind (wpAny_pure ?_)
  dsimp only
  refine wpAny_bind (wpAny_holding (whole_is P ?_))
  rw [if_neg (by decide)]
  refine wpAny_bind (wpAny_newObj_type ?_)
  exact wpAny_pure ⟨Code.quiet_builtin _ (by decide +kernel), h⟩
section
variable {C : Cx} {A : Around} {L : Addr} {m : Loc} {H : HS} {Q : AV → HS → Prop}
theorem PatAt.keeps {h h' : Heap} {a : Addr} {code : List Nat} (P : PatAt h a code) (hk : ∀ b o, h.get? b = some o → h'.get? b = some o) : PatAt h' a code :=
  let ⟨fs, T, ws, n, h1, h2, h3, h4, h5, h6⟩ := P; ⟨fs, T, ws, n, hk _ _ h1, h2, h3, h4, hk _ _ h5, h6⟩
theorem CB.search {a : Addr} {code : List Nat} {x : Str} (P : PatAt C.h₀ a code) (hsz : x.cps.size ≤ 1000) (hf : reFind code x.cps.toList 0 = some none) (h : Q .none H) : OPL C A (fun Vs => call (.builtin "re.Pattern.search") Vs) [.ref a, .str x] L m H Q :=
  .two fun V W i j F s Qc E S k => by
    obtain ⟨_, rfl⟩ := i.inv; obtain ⟨_, rfl⟩ := j.inv
    have P' := P.keeps S.keep
    have hT : s.TypeIs (.ref a) "re.Pattern" := let ⟨fs, T, ws, n, h1, _⟩ := P'; ⟨_, h1, rfl⟩
    refine wpAny_call (codeAny_call_builtin slot_re_search.plain entry_re_search (slot_re_search.check _ _ _ _ _ _ _ _ hT (args_re_search _ _) ?_))
    exact search_none a code x _ C.prog C.w A (wants Qc E) s ⟨P', hsz, hf, k _ _ s.heap s.toks ⟨.none, H, rfl, .none, h⟩ S⟩
theorem PatAt.but {h h' : Heap} {a l : Addr} {code : List Nat} (P : PatAt C.h₀ a code) (hk : ∀ b o, C.h₀.get? b = some o → h.get? b = some o) (hl : C.h₀.get? l = none) (hs : Heap.SameBut l h h') : PatAt h' a code :=
  P.keeps fun b o e => (hs.2 b (fun e' => by rw [e', hl] at e; cases e)).trans (hk b o e)
theorem ofL_extract (l : List Nat) (b e : Nat) : (⟨(ofL l).cps.extract b e⟩ : Str) = ofL ((l.drop b).take (e - b)) := by
  unfold ofL; congr 1; simp
theorem sub_keep {s : Shared} {h' : Heap} {o : Obj} (hs : Heap.SameBut s.heap.objs.size (s.heap.push o) h') : ∀ b x, s.heap.get? b = some x → h'.get? b = some x := fun b x e =>
  (hs.2 b (Nat.ne_of_lt (Heap.lt_size e))).trans (Heap.get?_push_of_some _ e)
/- no part of the text is met -/
theorem CB.sub0 {a : Addr} {code l rl : List Nat} (P : PatAt C.h₀ a code) (h0 : 0 < l.length) (hsz : l.length ≤ 1000) (hr : rl.contains 92 = false) (hf : reFind code l 0 = some none) (h : Q (.str (ofL l)) H) :
    OPL C A (fun Vs => call (.builtin "re.Pattern.sub") Vs) [.ref a, .str (ofL rl), .str (ofL l)] L m H Q :=
  .three fun V W X i j o F s Qc E S k => by
    obtain ⟨_, rfl⟩ := i.inv; obtain ⟨_, rfl⟩ := j.inv; cases o
    have P' := P.keeps S.keep
    have hT : s.TypeIs (.ref a) "re.Pattern" := let ⟨fs, T, ws, n, h1, _⟩ := P'; ⟨_, h1, rfl⟩
    have hl : (ofL l).cps.size = l.length := ofL_len l
    refine wpAny_call (codeAny_call_builtin slot_re_sub.plain entry_re_sub (slot_re_sub.check _ _ _ _ _ _ _ _ hT (args_re_sub _ _ _) ?_))
    refine sub_head (A := A) (R := wants Qc E) P' (by simpa [ofL] using hr) ?_
    refine loop_none (s := { s with heap := s.heap.push { cls := .type "list", data := .seq #[] } }) (vs := #[]) (ys := []) (k := 0) (done := 0) (P'.keeps fun b o e => Heap.get?_push_of_some _ e) (Heap.get?_push_size _ rfl) hf (by rw [hl]; exact h0) (by rw [hl]; exact hsz) (by simp) .nil ?_ fun h' tk t' hs => ?_
    · rw [ofL_extract, hl]; simp [ofL_len]; lia
    · rw [ofL_extract, ofL_extract, hl]
      have : Txt.join (ofL ((l.drop 0).take (0 - 0))) ([] ++ [ofL ((l.drop 0).take (l.length - 0))]) = ofL l := (joinL [(l.drop 0).take (l.length - 0)]).trans (by simp)
      rw [this]
      exact k _ _ h' tk ⟨_, H, rfl, .str _ _, h⟩ (S.grow (sub_keep hs))
/- the text's first sign is met, and no other -/
theorem CB.sub1 {a : Addr} {code l rl : List Nat} (P : PatAt C.h₀ a code) (h0 : 1 < l.length) (hsz : l.length ≤ 1000) (hrl : rl.length ≤ 10) (hr : rl.contains 92 = false) (hf : reFind code l 0 = some (some (0, 1))) (hf1 : reFind code l 1 = some none) (h : Q (.str (ofL (rl ++ l.drop 1))) H) :
    OPL C A (fun Vs => call (.builtin "re.Pattern.sub") Vs) [.ref a, .str (ofL rl), .str (ofL l)] L m H Q :=
  .three fun V W X i j o F s Qc E S k => by
    obtain ⟨_, rfl⟩ := i.inv; obtain ⟨_, rfl⟩ := j.inv; cases o
    have P' := P.keeps S.keep
    have hT : s.TypeIs (.ref a) "re.Pattern" := let ⟨fs, T, ws, n, h1, _⟩ := P'; ⟨_, h1, rfl⟩
    have hl : (ofL l).cps.size = l.length := ofL_len l
    refine wpAny_call (codeAny_call_builtin slot_re_sub.plain entry_re_sub (slot_re_sub.check _ _ _ _ _ _ _ _ hT (args_re_sub _ _ _) ?_))
    refine sub_head (A := A) (R := wants Qc E) P' (by simpa [ofL] using hr) ?_
    refine loop_first (s := { s with heap := s.heap.push { cls := .type "list", data := .seq #[] } }) (k := 0) (P'.keeps fun b o e => Heap.get?_push_of_some _ e) (Heap.get?_push_size _ rfl) hf fun h1 k1 hl1 hs1 => ?_
    have keep1 := sub_keep hs1
    refine loop_none (s := { s with heap := h1 }) (ys := [ofL rl]) (done := 1) (P'.keeps keep1) hl1 hf1 (by rw [hl]; exact h0) (by rw [hl]; exact hsz) (by simp) (.cons _ _ .nil) ?_ fun h' tk t' hs => ?_
    · rw [ofL_extract, hl]; simp [ofL_len]; lia
    · rw [ofL_extract, ofL_extract, hl]
      have ed : (l.drop 1).take (l.length - 1) = l.drop 1 := List.take_of_length_le (by simp)
      have : Txt.join (ofL ((l.drop 0).take (0 - 0))) ([ofL rl] ++ [ofL ((l.drop 1).take (l.length - 1))]) = ofL (rl ++ l.drop 1) := (joinL [rl, (l.drop 1).take (l.length - 1)]).trans (by rw [ed]; simp)
      rw [this]
      exact k _ _ h' tk ⟨_, H, rfl, .str _ _, h⟩ (S.grow fun b x e => (hs.2 b (Nat.ne_of_lt (Heap.lt_size e))).trans (keep1 b x e))
end
end

/- a def that is called with some values, some keywords and some defaults -/
structure FnG (C : Cx) (f : Addr) (body : List Stmt) (names : List (Str × NameKind)) (ps : List Str) (k : Nat) (kws : List Str) (ds : List AV) : Prop where
  ex : ∃ fd Ds, Fn C f fd body names ∧ All2 ds Ds ∧ ∀ s : Shared, (∀ b o, C.h₀.get? b = some o → s.heap.get? b = some o) → ∀ Vs Ks : List Value, Vs.length = k → Ks.length = kws.length → BindsTo s fd ⟨Vs, kws.zip Ks⟩ (ps.zip (Vs ++ (Ks ++ Ds)))
section
variable {C : Cx} {A : Around} {env : Env} {names : List (Str × NameKind)} {cells : List (Str × Addr)} {L : Addr} {m : Loc} {H : HS} {Q : AV → HS → Prop}
theorem FnG.call {f : Addr} {body : List Stmt} {ps : List Str} {k : Nat} {kws : List Str} {as ks ds : List AV} {n : Nat} (X : FnG C f body names ps k kws ds) (G : C.Ok) (R : Rm A (n + 1)) (locs : List Str) (hk : as.length = k) (hks : ks.length = kws.length) (hl : ps.length = k + (kws.length + ds.length))
    (st : (names.map (·.1)).Nodup ∧ (∀ p ∈ names, p.2 ≠ .globalImplicit → p.1 ≠ "__debug__") ∧ locs.Nodup ∧ (cellNames names).Nodup)
    (h : ∀ env cs, cs.length = (cellNames names).length → EnvOk env names ((cellNames names).zip cs) →
      BNDA C A.in1 env (ps.zip (as ++ (ks ++ ds))) (locs.map fun x => (x, .undef)) (newCells cs ++ (L, .ns m) :: H) fun m₁ H₁ => EB C (A.deeper env) body env m₁ H₁ (RET L m Q)) :
    ∀ Vs Ks, All2 as Vs → All2 ks Ks → CK C A (.call (.ref f) ⟨Vs, kws.zip Ks⟩) L m H Q := by
  intro Vs Ks hV hK
  obtain ⟨fd, Ds, X, hD, hb⟩ := X.ex
  exact enterC (locs := locs) (cl := []) (kws := kws.zip Ks) (args := as ++ (ks ++ ds)) G X.here X.st R Vs (Vs ++ (Ks ++ Ds)) (hV.append (hK.append hD)) (fun s hs => hb s hs Vs Ks (by rw [hV.length, hk]) (by rw [hK.length, hks]))
    (by simp only [List.length_append]; lia) (by simpa using st) fun env cs hc E _ => h env cs hc (by simpa using E)

/- types -/
theorem CB.typeList {l : Addr} {xs : List AV} (hm : (l, AO.list xs) ∈ H) (h : Q (.ty "list") H) : OPL C A (fun Vs => call (.type "type") Vs) [.ref l] L m H Q :=
  .one fun V i F s Qc E S k => by
    obtain ⟨_, rfl⟩ := i.inv
    obtain ⟨vs, n, e, r⟩ := S.list (List.mem_append_left F (.tail _ hm))
    exact call_type_of (isList_of e).typeIs (by decide) (k _ _ s.heap s.toks ⟨.ty "list", H, rfl, .ty _, h⟩ S)
theorem CB.typeStr {x : Str} (h : Q (.ty "str") H) : OPL C A (fun Vs => call (.type "type") Vs) [.str x] L m H Q :=
  .one fun V i F s Qc E S k => by
    obtain ⟨_, rfl⟩ := i.inv
    exact call_type_of (typeIs_str s _ _) (by decide) (k _ _ s.heap s.toks ⟨.ty "str", H, rfl, .ty _, h⟩ S)
theorem OP.isTy {n : String} (h : Q (.bool true) H) : OP2 C A (compareOp .Is) (.ty n) (.ty n) L m H Q := by
  intro Va Vb ia ib F s Qc E S k; obtain ⟨_, rfl⟩ := ia.inv; obtain ⟨_, rfl⟩ := ib.inv
  exact wpAny_is_self rfl (k _ _ s.heap s.toks ⟨.bool true, H, rfl, .bool _, h⟩ S)
theorem OP.isNotTy {n : String} (h : Q (.bool false) H) : OP2 C A (compareOp .IsNot) (.ty n) (.ty n) L m H Q := by
  intro Va Vb ia ib F s Qc E S k; obtain ⟨_, rfl⟩ := ia.inv; obtain ⟨_, rfl⟩ := ib.inv
  exact wpAny_isNot_self rfl (k _ _ s.heap s.toks ⟨.bool false, H, rfl, .bool _, h⟩ S)
theorem OP.isNone (h : Q (.bool true) H) : OP2 C A (compareOp .Is) .none .none L m H Q := by
  intro Va Vb ia ib F s Qc E S k; obtain ⟨_, rfl⟩ := ia.inv; obtain ⟨_, rfl⟩ := ib.inv
  exact wpAny_is_self rfl (k _ _ s.heap s.toks ⟨.bool true, H, rfl, .bool _, h⟩ S)
theorem OP.isNotNone (h : Q (.bool false) H) : OP2 C A (compareOp .IsNot) .none .none L m H Q := by
  intro Va Vb ia ib F s Qc E S k; obtain ⟨_, rfl⟩ := ia.inv; obtain ⟨_, rfl⟩ := ib.inv
  exact wpAny_isNot_self rfl (k _ _ s.heap s.toks ⟨.bool false, H, rfl, .bool _, h⟩ S)
end

/- the class and its instances -/
noncomputable def hdrD (w : World) (tk : Tok) (l : Addr) : Obj := Obj.putName "_headers" (PyData.keyHash w.params "_headers") (.str "_headers" tk) (.ref l) emptyDict
noncomputable def mths : List (Str × Addr) := [("__init__", 136), ("_convert_string_type", 143), ("__len__", 150), ("__setitem__", 157), ("__delitem__", 162), ("get", 191), ("keys", 196), ("items", 208), ("setdefault", 234)]
noncomputable def hdrChk (K : Frag) : Bool :=
  makesIn K 244 && keepIn K (.ref 244) && mths.all (fun p => findIn K (.ref 244) p.1 == some (some (.ref p.2)) && typeIn K (.ref p.2) == some (.type "function") && keepIn K (.ref p.2)) &&
  findIn K (.ref 244) "__getattribute__" == some (some (.builtin "object.__getattribute__")) && findIn K (.ref 244) "__getattr__" == some none && findIn K (.ref 244) "__setattr__" == some (some (.builtin "object.__setattr__")) &&
  plainOver K 244 && takerIn K 244 "_headers" == some none && (clsIn K 244).any (·.hasDict) && findIn K (.ref 244) "_headers" == some none && noSeq K 244
structure HF (K : Frag) : Prop where
  makes : makesIn K 244 = true
  keep : keepIn K (.ref 244) = true
  meth : ∀ p ∈ mths, findIn K (.ref 244) p.1 = some (some (.ref p.2)) ∧ typeIn K (.ref p.2) = some (.type "function") ∧ keepIn K (.ref p.2) = true
  ga : findIn K (.ref 244) "__getattribute__" = some (some (.builtin "object.__getattribute__"))
  gx : findIn K (.ref 244) "__getattr__" = some none
  sa : findIn K (.ref 244) "__setattr__" = some (some (.builtin "object.__setattr__"))
  over : plainOver K 244 = true
  taker : takerIn K 244 "_headers" = some none
  dict : (clsIn K 244).any (·.hasDict) = true
  attr : findIn K (.ref 244) "_headers" = some none
  seq : noSeq K 244 = true
theorem HF.of {K : Frag} (h : hdrChk K = true) : HF K := by
  simp only [hdrChk, Bool.and_eq_true, beq_iff_eq, List.all_eq_true] at h
  obtain ⟨⟨⟨⟨⟨⟨⟨⟨⟨⟨h1, h2⟩, h3⟩, h4⟩, h5⟩, h6⟩, h7⟩, h8⟩, h9⟩, h10⟩, h11⟩ := h
  exact ⟨h1, h2, fun p hp => ⟨(h3 p hp).1.1, (h3 p hp).1.2, (h3 p hp).2⟩, h4, h5, h6, h7, h8, h9, h10, h11⟩
theorem look_hdr (w : World) (tk : Tok) (l : Addr) : lookIn "_headers" (hdrD w tk l) = some (some (.ref l)) := by rfl
theorem shadow_hdr (w : World) (tk : Tok) (l : Addr) : ∀ p ∈ mths, shadowIn (some (hdrD w tk l)) p.1 = some false := by
  intro p hp
  simp only [mths, List.mem_cons, List.not_mem_nil, or_false] at hp
  rcases hp with rfl | rfl | rfl | rfl | rfl | rfl | rfl | rfl | rfl <;> rfl
theorem find_hdr {K : Frag} (f : HF K) (w : World) (tk : Tok) (l : Addr) : findObj K 244 (some (hdrD w tk l)) "_headers" = some (.value (.ref l)) := by
  obtain ⟨cd, hc, hd⟩ := any_some f.dict
  unfold findObj
  rw [hc, Option.bind_some, f.attr, Option.bind_some]
  show (PySem.W.ownOf cd (some (hdrD w tk l)) "_headers").bind _ = _
  unfold PySem.W.ownOf
  rw [hd, if_pos rfl]
  show (lookIn "_headers" (hdrD w tk l)).bind _ = _
  rw [look_hdr]; rfl
section
variable {C : Cx} {A : Around} {env : Env} {names : List (Str × NameKind)} {cells : List (Str × Addr)} {L : Addr} {m : Loc} {H : HS} {Q : AV → HS → Prop} {K : Frag}
theorem instAt {H F : HS} {h : Heap} {b dx : Addr} {tk : Tok} {l : Addr} (S : Sat C (H ++ F) h) (hb : (b, AO.raw (instObj 244 dx)) ∈ H) (hd : (dx, AO.raw (hdrD C.w tk l)) ∈ H) : InstAt h b (instObj 244 dx) 244 (some (hdrD C.w tk l)) := by
  obtain ⟨_, o, e, rfl⟩ := S.at_ _ (List.mem_append_left F hb)
  obtain ⟨_, o', e', rfl⟩ := S.at_ _ (List.mem_append_left F hd)
  exact ⟨e, rfl, rfl, e'⟩
/- an object of the class in the ledger -/
noncomputable def HI (C : Cx) (H : HS) (b l : Addr) : Prop := ∃ dx tk, (b, AO.raw (instObj 244 dx)) ∈ H ∧ (dx, AO.raw (hdrD C.w tk l)) ∈ H
theorem HI.inst {H F : HS} {h : Heap} {b l : Addr} (x : HI C H b l) (S : Sat C (H ++ F) h) : ∃ dx tk, InstAt h b (instObj 244 dx) 244 (some (hdrD C.w tk l)) := let ⟨dx, tk, h1, h2⟩ := x; ⟨dx, tk, instAt S h1 h2⟩
theorem HI.tail {p : Addr × AO} {b l : Addr} (x : HI C H b l) : HI C (p :: H) b l := let ⟨dx, tk, h1, h2⟩ := x; ⟨dx, tk, .tail _ h1, .tail _ h2⟩
theorem EV.attrH {o : Expr} {pos : Pos} (X : K.In C.h₀) (f : HF K) (h : EV C A o env m H fun a H₁ => ∃ b l, a = .ref b ∧ HI C H₁ b l ∧ Q (.ref l) H₁)
    (he : autoParam (eval (.Attribute o "_headers" pos) env = (do
      let o' ← eval o env
      standAt pos.atName
      let r ← holding [o'] (getAttr o' "_headers" true)
      letTemporaryGo o o' r
      pure r)) aU) : EV C A (.Attribute o "_headers" pos) env m H Q := by
  intro F s Qc E S k
  refine Attribute_any_ (TV.go h S fun oV a H₁ h₁ t₁ i qq S₁ => ?_) he
  obtain ⟨b, l, e2, x, q⟩ := qq
  subst e2; obtain ⟨_, rfl⟩ := i.inv
  obtain ⟨dx, tk, I⟩ := (x.tail (p := (env.locals, .ns m))).inst S₁
  exact get_value (X.keeps S₁.keep) I f.ga (find_hdr f C.w tk l) rfl (k _ _ h₁ _ ⟨_, H₁, rfl, .ref _, q⟩ S₁)
/- a method of the class, called -/
theorem EV.methH {o : Expr} {name : Str} {apos pos : Pos} {e : Expr} {rest : List Expr} {pl : Sem Bool} {fa : Addr} (X : K.In C.h₀) (f : HF K) (hm : (name, fa) ∈ mths)
    (h : EV C A o env m H fun a H₁ => ∃ b l, a = .ref b ∧ HI C H₁ b l ∧ EL C A pos (e :: rest) env m H₁ fun as H₂ => ∀ Vs, All2 (.ref b :: as) Vs → CK C A (.call (.ref fa) ⟨Vs, []⟩) env.locals m H₂ Q)
    (he' : autoParam (eval (.Call (.Attribute o name apos) (e :: rest) [] pos) env = (do let ov ← eval o env; standAt apos.atName; let (f, first) ← holding [ov] (getMethod ov name pl); callWith pos f first (backTo pos (starEach (e :: rest) env)) [])) aRfl)
    (he : autoParam (starEach (e :: rest) env = (false, eval e env) :: starEach rest env) aRfl) (hplain : autoParam ((backTo pos (starEach rest env)).any (·.1) = false) aRfl) : EV C A (.Call (.Attribute o name apos) (e :: rest) [] pos) env m H Q := by
  intro F s Qc E S k
  obtain ⟨m1, m2, m3⟩ := f.meth _ hm
  refine MethodCall_ (TV.go h S fun oV a H₁ h₁ t₁ i qq S₁ => ?_) he'
  obtain ⟨b, l, e2, x, q⟩ := qq
  subst e2; obtain ⟨_, rfl⟩ := i.inv
  obtain ⟨dx, tk, I⟩ := (x.tail (p := (env.locals, .ns m))).inst S₁
  refine method_fn (X.keeps S₁.keep) I f.ga f.gx m1 m2 (shadow_hdr C.w tk l _ hm) ?_
  refine callWith_K X m3 (TL.go q S₁ fun Vs as H₂ h₂ t₂ j q' S₂ => ?_) he hplain
  exact ⟨X.keeps S₂.keep, CK.tv (q' (.ref b :: Vs) ⟨.ref b, j⟩) F { s with heap := h₂, toks := t₂ } _ E S₂ k⟩
theorem EV.methH0 {o : Expr} {name : Str} {apos pos : Pos} {pl : Sem Bool} {fa : Addr} (X : K.In C.h₀) (f : HF K) (hm : (name, fa) ∈ mths)
    (h : EV C A o env m H fun a H₁ => ∃ b l, a = .ref b ∧ HI C H₁ b l ∧ ∀ Vs, All2 [.ref b] Vs → CK C A (.call (.ref fa) ⟨Vs, []⟩) env.locals m H₁ Q)
    (he' : autoParam (eval (.Call (.Attribute o name apos) [] [] pos) env = (do let ov ← eval o env; standAt apos.atName; let (f, first) ← holding [ov] (getMethod ov name pl); callWith pos f first (backTo pos (starEach [] env)) [])) aRfl) : EV C A (.Call (.Attribute o name apos) [] [] pos) env m H Q := by
  intro F s Qc E S k
  obtain ⟨m1, m2, m3⟩ := f.meth _ hm
  refine MethodCall_ (TV.go h S fun oV a H₁ h₁ t₁ i qq S₁ => ?_) he'
  obtain ⟨b, l, e2, x, q⟩ := qq
  subst e2; obtain ⟨_, rfl⟩ := i.inv
  obtain ⟨dx, tk, I⟩ := (x.tail (p := (env.locals, .ns m))).inst S₁
  refine method_fn (X.keeps S₁.keep) I f.ga f.gx m1 m2 (shadow_hdr C.w tk l _ hm) ?_
  exact callWith_K0 (X.keeps S₁.keep) m3 (CK.tv (q [.ref b] ⟨.ref b, trivial⟩) F { s with heap := h₁, toks := t₁ } _ E S₁ k)
/- with one keyword, a bool -/
theorem EV.methHK {o : Expr} {name kn : Str} {apos pos kp kp' : Pos} {kc : Nat} {bv : Bool} {e : Expr} {rest : List Expr} {pl : Sem Bool} {fa : Addr} (X : K.In C.h₀) (f : HF K) (hm : (name, fa) ∈ mths)
    (h : EV C A o env m H fun a H₁ => ∃ b l, a = .ref b ∧ HI C H₁ b l ∧ EL C A pos (e :: rest) env m H₁ fun as H₂ => ∀ Vs Ks, All2 (.ref b :: as) Vs → All2 [.bool bv] Ks → CK C A (.call (.ref fa) ⟨Vs, [kn].zip Ks⟩) env.locals m H₂ Q)
    (he' : autoParam (eval (.Call (.Attribute o name apos) (e :: rest) [⟨some kn, .Constant (.bool bv) kc kp, kp'⟩] pos) env = (do let ov ← eval o env; standAt apos.atName; let (f, first) ← holding [ov] (getMethod ov name pl); callWith pos f first (backTo pos (starEach (e :: rest) env)) (backToKw pos (keywordEach [⟨some kn, .Constant (.bool bv) kc kp, kp'⟩] env)))) aRfl)
    (he : autoParam (starEach (e :: rest) env = (false, eval e env) :: starEach rest env) aRfl)
    (hplain : autoParam (((backTo pos (starEach (e :: rest) env)).any (·.1) || (backToKw pos (keywordEach [⟨some kn, .Constant (.bool bv) kc kp, kp'⟩] env)).any (·.1.isNone)) = false) aRfl) :
    EV C A (.Call (.Attribute o name apos) (e :: rest) [⟨some kn, .Constant (.bool bv) kc kp, kp'⟩] pos) env m H Q := by
  intro F s Qc E S k
  obtain ⟨m1, m2, m3⟩ := f.meth _ hm
  refine methodCall_KW (TV.go h S fun oV a H₁ h₁ t₁ i qq S₁ => ?_) he'
  obtain ⟨b, l, e2, x, q⟩ := qq
  subst e2; obtain ⟨_, rfl⟩ := i.inv
  obtain ⟨dx, tk, I⟩ := (x.tail (p := (env.locals, .ns m))).inst S₁
  refine method_fn (X.keeps S₁.keep) I f.ga f.gx m1 m2 (shadow_hdr C.w tk l _ hm) ?_
  refine callWith_KW X m3 rfl (TL.go q S₁ fun Vs as H₂ h₂ t₂ j q' S₂ => ?_) hplain he
  have kwv : EV C A (.Constant (.bool bv) kc kp) env m H₂ fun v H' => v = .bool bv ∧ H' = H₂ := EV.bool ⟨rfl, rfl⟩
  refine wpAny_bind (wpAny_bind (TV.go kwv S₂ fun V v H₃ h₃ t₃ i qq S₃ => ?_))
  obtain ⟨ev, eh⟩ := qq
  subst ev; subst eh
  refine wpAny_bind (wpAny_standAt (wpAny_pure ?_))
  refine wpAny_bind (wpAny_holding (wpAny_pure (wpAny_pure ?_)))
  exact ⟨X.keeps S₃.keep, CK.tv (q' (.ref b :: Vs) [V] ⟨.ref b, j⟩ ⟨i, trivial⟩) F { s with heap := h₃, toks := t₃ } _ E S₃ k⟩
/- the class, called -/
theorem EV.newH {x : Str} {p pos : Pos} (X : K.In C.h₀) (f : HF K)
    (h : EV C A (.Name x p) env m H fun v H₁ => v = .ref 244 ∧ ∀ b dx, ∀ Vs, All2 [.ref b] Vs → CK C (A.under (.builtin "type.__call__" ⟨[.ref 244], []⟩)) (.call (.ref 136) ⟨Vs, []⟩) env.locals m ((b, .raw (instObj 244 dx)) :: (dx, .raw emptyDict) :: H₁) fun r H₂ => r = .none ∧ Q (.ref b) H₂) :
    EV C A (.Call (.Name x p) [] [] pos) env m H Q := by
  intro F s Qc E S k
  obtain ⟨m1, m2, m3⟩ := f.meth ("__init__", 136) (by simp [mths])
  refine Call_Name0 ?_
  refine TV.go h S fun fV fv H₁ h₁ t₁ i qq S₁ => ?_
  obtain ⟨e2, q⟩ := qq
  subst e2; obtain ⟨_, rfl⟩ := i.inv
  refine callWith_K0 (env := env) (X.keeps S₁.keep) f.keep ?_
  refine wpAny_call ?_
  have Y := makes_of (M := C.M) (X.keeps S₁.keep) f.makes
  refine make_core (init := .ref 136) Y (looks_findIn (X.keeps S₁.keep) m1) (fun self => bind_fn (X.keeps S₁.keep) self m2) (.inl (by rfl)) ?_
  have S₂ := Sat.new (Sat.new S₁ (o := emptyDict) (ao := .raw emptyDict) rfl) (o := instObj 244 h₁.objs.size) (ao := .raw (instObj 244 h₁.objs.size)) rfl
  rw [Heap.size_push] at S₂
  refine codeAny_mono (q (h₁.objs.size + 1) h₁.objs.size [.ref (h₁.objs.size + 1)] ⟨.ref _, trivial⟩ F { s with heap := (h₁.push emptyDict).push (instObj 244 h₁.objs.size), toks := t₁ } (fun V s' => V = .none ∧ ∃ h' tk, s' = { s with heap := h', toks := tk } ∧ ∃ H', Q (.ref (h₁.objs.size + 1)) H' ∧ Sat C (((env.locals, .ns m) :: H') ++ F) h') E S₂ fun V H' h' tk' ⟨v, H'', e3, i, ev, hq⟩ S₃ => ?_) fun r s' z => ?_
  · subst e3; subst ev; obtain ⟨_, rfl⟩ := i.inv
    exact ⟨rfl, h', tk', rfl, H'', hq, S₃⟩
  · cases r with
    | error er => exact z
    | ok fl =>
      cases fl with
      | ret v =>
        obtain ⟨rfl, h', tk, rfl, H', hq, S₃⟩ := z
        exact ⟨rfl, k _ _ h' tk ⟨_, H', rfl, .ref _, hq⟩ S₃⟩
      | _ => exact z
end

section
variable {C : Cx} {A : Around} {env : Env} {names : List (Str × NameKind)} {cells : List (Str × Addr)} {L : Addr} {m : Loc} {H : HS} {K : Frag}
/- the one attribute is stored for the first time -/
theorem ES.setH {o value : Expr} {p pos : Pos} {Q : FL → Loc → HS → Prop} (X : K.In C.h₀) (f : HF K)
    (h : EV C A value env m H fun v H₁ => EV C A o env m H₁ fun a H₂ => ∃ b dx l, v = .ref l ∧ a = .ref b ∧ (b, AO.raw (instObj 244 dx)) ∈ H₂ ∧ ∀ tk, ∃ H₃, Mine.Upd H₂ dx (.raw emptyDict) (.raw (hdrD C.w tk l)) H₃ ∧ Q .next m H₃)
    (hs : autoParam (swapsWith value (some (.Attribute o "_headers" p)) pos.line env = pure false) aRfl) : ES C A (.Assign [.Attribute o "_headers" p] value pos) env m H Q := by
  intro F s Qc E S k
  refine plainObj_wpAny_Assign_Attribute (TV.go h S fun vV v H₁ h₁ t₁ i q S₁ => ?_) hs
  refine TV.go q S₁ fun oV a H₂ h₂ t₂ j qq S₂ => ?_
  obtain ⟨b, dx, l, ev, ea, hb, hu⟩ := qq
  subst ev; subst ea; obtain ⟨_, rfl⟩ := i.inv; obtain ⟨_, rfl⟩ := j.inv
  obtain ⟨H₃, u, hq⟩ := hu (t₂ + 1)
  have X₂ := X.keeps S₂.keep
  obtain ⟨_, ob, hx, rfl⟩ := S₂.at_ _ (List.mem_append_left F (.tail _ hb))
  obtain ⟨_, od, D, rfl⟩ := S₂.at_ _ (List.mem_append_left F (.tail _ u.mem))
  have I : InstAt h₂ b (instObj 244 dx) 244 (some emptyDict) := ⟨hx, rfl, rfl, D⟩
  refine set_plain X₂ I f.sa ?_
  refine osa_open (s := { s with heap := h₂, toks := t₂ + 1 }) X₂ I f.over f.taker fun bb => ?_
  obtain ⟨cd, hc, hd'⟩ := any_some f.dict
  refine wpAny_bind (wpAny_pure (wpAny_bind (wpAny_bind (wpAny_loadPart hx (wpAny_bind ((looks_clsIn X₂ hc).here ?_))))))
  rw [hd']
  refine wpAny_pure (a := some dx) (wpAny_bind (wpAny_pure (wpAny_bind ?_)))
  unfold nsSet
  refine wpAny_bind (wpAny_bind (wpAny_askSetting (wpAny_pure (wpAny_bind (wpAny_mkText (wpAny_bind (wpAny_loadPart D ?_)))))))
  show wpAny _ _ (if aRefKeyMayBeTheName (Str.ofString "_headers") #[] = true then _ else updatePart dx (some (Value.str (Str.ofString "_headers") 0)) (Obj.putName "_headers" (PyData.keyHash C.w.params "_headers") (.str "_headers" (t₂ + 1)) (.ref l))) _ _ _
  rw [if_neg (by rw [aRefKeyMayBeTheName_at]; simp)]
  have U : Heap.SameBut dx h₂ (h₂.update dx (Obj.putName "_headers" (PyData.keyHash C.w.params "_headers") (.str "_headers" (t₂ + 1)) (.ref l))) := Heap.SameBut.update ..
  have D' : (h₂.update dx (Obj.putName "_headers" (PyData.keyHash C.w.params "_headers") (.str "_headers" (t₂ + 1)) (.ref l))).get? dx = some (hdrD C.w (t₂ + 1) l) := Heap.get?_update_self _ D rfl
  refine wpAny_updatePart D ?_
  refine wpAny_bind (wpAny_lookBehind D' (by show (Data.dict _ _).pastItsLine = none; exact pastItsLine_dict (by rw [sizeLine_eq]; exact Nat.le_of_ble_eq_true rfl)) ?_)
  refine wpAny_pure ?_
  exact k _ _ _ _ ⟨.next, m, H₃, rfl, trivial, hq⟩ (S₂.mut u U D' rfl)
/- b[i] = v, by the class's own method -/
theorem ST.inst {b l : Addr} {i v : AV} {Q : HS → Prop} (X : K.In C.h₀) (f : HF K) (x : HI C H b l) (h : ∀ Vs, All2 [.ref b, i, v] Vs → CK C A (.call (.ref 157) ⟨Vs, []⟩) L m H fun _ H' => Q H') : ST C A (.ref b) i v L m H Q := by
  intro Vo Vi Vv io ii iv F s Qc E S k
  obtain ⟨_, rfl⟩ := io.inv
  obtain ⟨m1, m2, m3⟩ := f.meth ("__setitem__", 157) (by simp [mths])
  obtain ⟨dx, tk, I⟩ := (x.tail (p := (L, .ns m))).inst S
  have X' := X.keeps S.keep
  unfold setItem sequenceKey
  refine wpAny_holding (wpAny_bind (wpAny_bind (I.type.here ?_)))
  refine wpAny_bind ((anyM_none X' f.seq).here ?_)
  rw [if_pos (show (!false) = true from rfl)]
  refine wpAny_pure (wpAny_bind (special_fn X' I m1 m2 (wpAny_mono (CK.tv (h [.ref b, Vi, Vv] ⟨.ref _, ii, iv, trivial⟩) F s (fun _ s' => Qc () s') E S fun V H' h' tk' ⟨r, H'', e, _, q⟩ S' => ?_) (fun _ _ z => wpAny_pure z) fun _ _ z => z)))
  subst e
  exact k () _ h' tk' ⟨H'', rfl, q⟩ S'
/- del b[i] -/
theorem ES.delH {o i : Expr} {p pos : Pos} {Q : FL → Loc → HS → Prop} (X : K.In C.h₀) (f : HF K)
    (h : EV C A o env m H fun a H₁ => EV C A i env m H₁ fun j H₂ => ∃ b l, a = .ref b ∧ HI C H₂ b l ∧ ∀ Vs, All2 [.ref b, j] Vs → CK C A (.call (.ref 162) ⟨Vs, []⟩) env.locals m H₂ fun _ H₃ => Q .next m H₃) : ES C A (.Delete [.Subscript o i p] pos) env m H Q := by
  intro F s Qc E S k
  obtain ⟨m1, m2, m3⟩ := f.meth ("__delitem__", 162) (by simp [mths])
  refine PySem.wpAny_Delete (PySem.wpAny_deleteEach_cons (wpAny_delete_Subscript ?_))
  refine TV.go h S fun oV a H₁ h₁ t₁ ia q S₁ => ?_
  refine TV.go q S₁ fun jV j H₂ h₂ t₂ ij qq S₂ => ?_
  obtain ⟨b, l, e3, x, q2⟩ := qq
  subst e3; obtain ⟨_, rfl⟩ := ia.inv
  obtain ⟨dx, tk, I⟩ := (x.tail (p := (env.locals, .ns m))).inst S₂
  have X' := X.keeps S₂.keep
  unfold delItem sequenceKey
  refine wpAny_holding (wpAny_bind (wpAny_bind (I.type.here ?_)))
  refine wpAny_bind ((anyM_none X' f.seq).here ?_)
  rw [if_pos (show (!false) = true from rfl)]
  refine wpAny_pure (wpAny_bind (special_fn X' I m1 m2 (wpAny_mono (CK.tv (q2 [.ref b, jV] ⟨.ref _, ij, trivial⟩) F { s with heap := h₂, toks := t₂ } (fun _ s' => wpAny C.M A (deleteEach [] env) (fun _ s₁ => Qc .next s₁) E s') E S₂ fun V H' h' tk' ⟨r, H'', e, _, q⟩ S' => ?_) (fun _ _ z => wpAny_pure z) fun _ _ z => z)))
  subst e
  exact PySem.wpAny_deleteEach_nil (k .next _ h' tk' ⟨.next, m, H'', rfl, trivial, q⟩ S')
/- len(b) -/
theorem CB.lenInst {b l : Addr} {Q : AV → HS → Prop} (X : K.In C.h₀) (f : HF K) (x : HI C H b l) (h : ∀ Vs, All2 [.ref b] Vs → CK C A.in1 (.call (.ref 150) ⟨Vs, []⟩) L m H fun v H' => ∃ n : Nat, v = .int n ∧ n < 1000 ∧ Q (.int n) H') :
    OPL C A (fun Vs => call (.builtin "len") Vs) [.ref b] L m H Q :=
  .one fun V i F s Qc E S k => by
    obtain ⟨_, rfl⟩ := i.inv
    obtain ⟨m1, m2, m3⟩ := f.meth ("__len__", 150) (by simp [mths])
    obtain ⟨dx, tk, I⟩ := (x.tail (p := (L, .ns m))).inst S
    have X' := X.keeps S.keep
    refine Calls.call_function_entry kind_len plain_len entry_len (args_len1 _) ?_
    unfold Builtin.«len»
    refine wpAny_bind (m := oneArg "len" _) (wpAny_pure ?_)
    refine wpAny_bind (m := callSpecial? (.ref b) (Str.ofString "__len__")) (special_fn X' I m1 m2 (CK.tv (h [.ref b] ⟨.ref b, trivial⟩) F s _ E S fun V H' h' tk' ⟨r, H'', e, i, n, e2, hn, q⟩ S' => ?_))
    subst e; subst e2; obtain ⟨_, rfl⟩ := i.inv
    refine wpAny_bind (wpAny_holding (wpAny_pure ?_))
    refine wpAny_bind (wpAny_letGo ?_)
    show wpAny _ _ (if (n : Int) < 0 then _ else _) _ _ _
    rw [if_neg (by lia)]
    show wpAny _ _ (if (n : Int) ≥ 2 ^ 63 then _ else _) _ _ _
    rw [if_neg (by lia)]
    exact wpAny_bind (wpAny_mkInt (wpAny_pure ⟨_, rfl, k _ _ h' _ ⟨_, H'', rfl, .int _ _, q⟩ S'⟩))
end

set_option maxRecDepth 100000
noncomputable def clsBody : List Stmt := match PySem.Challenge.pw_tl0053_01.main.body[(21 : Nat)]? with
  | some (.ClassDef _ _ _ body ..) => body
  | _ => []
noncomputable def mbody (k : Nat) : List Stmt := match clsBody[k]? with
  | some (.FunctionDef _ _ body ..) => body
  | _ => []
noncomputable def code1 : List Nat := [14, 4, 0, 1, 1, 6, 1, 16, 46, 1]
noncomputable def code2 : List Nat := [14, 9, 4, 1, 2, 16, 10, 16, 13, 0, 7, 7, 16, 13, 16, 10, 15, 18, 5, 16, 10, 15, 13, 11, 16, 13, 5, 5, 0, 16, 10, 1, 15, 2, 0, 1]
noncomputable def codeN : List Nat := [14, 10, 4, 1, 1, 22, 0, 31, 16, 127, 0, 13, 7, 22, 0, 31, 16, 127, 0, 1]
noncomputable def codeV : List Nat := [14, 14, 4, 1, 1, 9, 4294966783, 0, 0, 2147483648, 0, 0, 0, 0, 0, 13, 11, 9, 4294966783, 0, 0, 2147483648, 0, 0, 0, 0, 0, 1]
structure KH (C : Cx) (F : Frag) : Prop where
  X : F.In C.h₀
  f : HF F
  f_init : FnG C 136 (mbody 0) nm_init ["self", "headers"] 1 [] [.none]
  f_conv : FnG C 143 (mbody 1) nm_conv ["self", "value", "name"] 2 ["name"] []
  f_len : FnG C 150 (mbody 2) nm_hlen ["self"] 1 [] []
  f_set : FnG C 157 (mbody 3) nm_hset ["self", "name", "val"] 3 [] []
  f_del : FnG C 162 (mbody 4) nm_hdel ["self", "name"] 2 [] []
  f_get : FnG C 191 (mbody 8) nm_hget ["self", "name", "default"] 2 [] [.none]
  f_keys : FnG C 196 (mbody 9) nm_hkeys ["self"] 1 [] []
  f_items : FnG C 208 (mbody 11) nm_hitems ["self"] 1 [] []
  f_setd : FnG C 234 (mbody 15) nm_hsetd ["self", "name", "value"] 3 [] []
  p1 : PatAt C.h₀ 99 code1
  p2 : PatAt C.h₀ 104 code2
  pn : PatAt C.h₀ 116 codeN
  pv : PatAt C.h₀ 121 codeV
noncomputable def dots (k : Nat) : List Nat := List.replicate k 46
theorem re2_all : ∀ k : Fin 24, reFind code2 (dots (k.val + 8)) 0 = some none := by decide +kernel
theorem re1_all : ∀ k : Fin 24, reFind code1 (dots (k.val + 8)) 0 = some (some (0, 1)) ∧ reFind code1 (dots (k.val + 8)) 1 = some none := by decide +kernel
theorem reV_all : ∀ k : Fin 24, ∀ c ∈ [114, 103, 98], reFind codeV (dots (k.val + 8) ++ [c]) 0 = some none := by decide +kernel
theorem reN_all : ∀ c ∈ [97, 98, 99, 100, 101, 102, 65, 66, 67, 68, 69, 70], reFind codeN [c] 0 = some none := by decide +kernel
section
variable {C : Cx} {A : Around} {env : Env} {names : List (Str × NameKind)} {cells : List (Str × Addr)} {L : Addr} {m : Loc} {H : HS} {Q : AV → HS → Prop}
/- a method of a pattern of the program's, called -/
theorem EV.methP {o : Expr} {name : Str} {apos pos : Pos} {e : Expr} {rest : List Expr} {pl : Sem Bool} (id : String) (slot : Slot "re.Pattern" name id) (hty : typeOf (.builtin id) = pure (.type "method_descriptor"))
    (h : EV C A o env m H fun a H₁ => (∃ p code, a = .ref p ∧ PatAt C.h₀ p code) ∧ EL C A pos (e :: rest) env m H₁ fun as H₂ => OPL C A (fun Vs => call (.builtin id) Vs) (a :: as) env.locals m H₂ Q)
    (hm : autoParam (eval (.Call (.Attribute o name apos) (e :: rest) [] pos) env = (do let ov ← eval o env; standAt apos.atName; let (f, first) ← holding [ov] (getMethod ov name pl); callWith pos f first (backTo pos (starEach (e :: rest) env)) [])) aRfl)
    (he : autoParam (starEach (e :: rest) env = (false, eval e env) :: starEach rest env) aRfl) (hplain : autoParam ((backTo pos (starEach rest env)).any (·.1) = false) aRfl) : EV C A (.Call (.Attribute o name apos) (e :: rest) [] pos) env m H Q := by
  intro F s Qc E S k
  refine MethodCall_ (TV.go h S fun oV a H₁ h₁ t₁ i qq S₁ => ?_) hm
  obtain ⟨⟨p, code, e2, P⟩, q⟩ := qq
  subst e2; obtain ⟨_, rfl⟩ := i.inv
  obtain ⟨fs, T, ws, n, g1, _⟩ := P.keeps S₁.keep
  refine getMethod_builtin (T := "re.Pattern") ⟨_, g1, rfl⟩ plainAttrs_re slot hty (fun a e => by cases e; exact ⟨_, g1, rfl⟩) (PyProof.Rows.callWith_method1 (first := [.ref p]) (TL.go q S₁ fun Vs as H₂ h₂ t₂ j q' S₂ => ?_) he hplain)
  exact q' (.ref p :: Vs) ⟨.ref p, j⟩ F { s with heap := h₂, toks := t₂ } _ E S₂ k
end

/- l[:] = v -/
theorem set_all (l sl v : Addr) (xs ys : Array Value) (n k : Nat) (hne : l ≠ v) :
    Meets (Builtin.«list.__setitem__» ⟨[.ref l, .ref sl, .ref v], []⟩)
      (fun A R s => s.heap.get? l = some { cls := .type "list", data := .seq xs n } ∧ s.heap.get? sl = some { cls := .type "slice", data := .fields #[.none, .none, .none] } ∧ s.heap.get? v = some { cls := .type "list", data := .seq ys k } ∧ xs.size ≤ 1000 ∧ ys.size ≤ 1000 ∧
        ∀ h' tk n', h'.get? l = some { cls := .type "list", data := .seq ys n' } → Heap.SameBut l s.heap h' → R (.ok (.ret .none)) { s with heap := h', toks := tk }) :=
  .of_wp fun prog w A R s h => by
    obtain ⟨hp, g, d, tk, os⟩ := s
    obtain ⟨h1, h2, h3, hx, hy, h⟩ := h
    have hT : (⟨hp, g, d, tk, os⟩ : Shared).TypeIs (.ref sl) "slice" := ⟨_, h2, rfl⟩
    have hL : (⟨hp, g, d, tk, os⟩ : Shared).TypeIs (.ref v) "list" := ⟨_, h3, rfl⟩
    have f1 : typeLookup (.type "slice") "__index__" = pure none := by rw [typeLookup_type, builtinLookup_eq_fast]; kernel_rfl
    have hlv : Builtin.List.listSameRef (.ref l) (.ref v) = false := beq_eq_false_iff_ne.mpr hne
    wp_walk
    rw [if_neg (by unfold Builtin.List.listTooLong; simp only [Bool.not_eq_true, decide_eq_false_iff_not, sizeLine_eq]; lia)]
    have e1 : ∀ zs : Array Value, zs.size = xs.size → zs.extract 0 (if (1 : Int) > 0 then (0 : Int) else ↑xs.size - 1).toNat ++ ys ++ zs.extract (max (if (1 : Int) > 0 then (0 : Int) else ↑xs.size - 1) (if (1 : Int) > 0 then (↑xs.size : Int) else -1)).toNat zs.size = ys := fun zs hz => by
      rw [if_pos (by decide), if_pos (by decide), show (max (0 : Int) ↑xs.size).toNat = xs.size by lia, ← hz]
      simp
    refine wpAny_bind (wpAny_updateSeq h1 rfl ?_ (by rw [sizeLine_eq]; lia) (by rw [e1 xs rfl, sizeLine_eq]; lia))
    refine wpAny_bind (wpAny_letGo (wpAny_pure ⟨_, rfl, ?_⟩))
    obtain ⟨n', hd⟩ := Obj.data_mapSeq (o := { cls := .type "list", data := .seq xs n }) (xs := xs) (n := n) rfl fun xs_1 => xs_1.extract 0 (if (1 : Int) > 0 then (0 : Int) else ↑xs.size - 1).toNat ++ ys ++ xs_1.extract (max (if (1 : Int) > 0 then (0 : Int) else ↑xs.size - 1) (if (1 : Int) > 0 then (↑xs.size : Int) else -1)).toNat xs_1.size
    have := Heap.get?_update_self (Obj.mapSeq fun xs_1 => xs_1.extract 0 (if (1 : Int) > 0 then (0 : Int) else ↑xs.size - 1).toNat ++ ys ++ xs_1.extract (max (if (1 : Int) > 0 then (0 : Int) else ↑xs.size - 1) (if (1 : Int) > 0 then (↑xs.size : Int) else -1)).toNat xs_1.size) h1 (Obj.isFreed_of_seq hd)
    rw [e1 xs rfl] at hd
    refine h _ tk n' (this.trans (congrArg some ?_)) (Heap.SameBut.update ..)
    rw [← hd]; rfl
section
variable {C : Cx} {A : Around} {env : Env} {L : Addr} {m : Loc} {H : HS}
theorem ES.setAll {o value : Expr} {sp p pos : Pos} {Q : FL → Loc → HS → Prop}
    (h : EV C A value env m H fun v H₁ => EV C A o env m H₁ fun a H₂ => ∃ l w xs ys H₂' H₃, a = .ref l ∧ v = .ref w ∧ H₂ = (w, .list ys) :: H₂' ∧ xs.length ≤ 1000 ∧ ys.length ≤ 1000 ∧ Mine.Upd H₂' l (.list xs) (.list ys) H₃ ∧ Q .next m ((w, .list ys) :: H₃))
    (hs : autoParam (swapsWith value (some (.Subscript o (.Slice none none none sp) p)) pos.line env = pure false) aRfl) : ES C A (.Assign [.Subscript o (.Slice none none none sp) p] value pos) env m H Q := by
  intro F s Qc E' S k
  refine wpAny_Assign_Subscript (TV.at h S fun a Va H₁ h₁ t₁ ia q₁ S₁ => TV.at q₁ (s := { s with heap := h₁, toks := t₁ }) S₁ fun b Vb H₂ h₂ t₂ ib ⟨l, w, xs, ys, H₂', H₃, e1, e2, e3, hx, hy, u', q⟩ S₂ => ?_) hs
  subst e1; subst e2; subst e3; obtain ⟨_, rfl⟩ := ia.inv; obtain ⟨_, rfl⟩ := ib.inv
  have hw : (w, AO.list ys) ∈ (w, AO.list ys) :: H₂' := .head _
  have u : Mine.Upd ((w, .list ys) :: H₂') l (.list xs) (.list ys) ((w, .list ys) :: H₃) := .tail u'
  have hne : l ≠ w := fun e => by
    have nd := (List.nodup_cons.mp (List.nodup_cons.mp S₂.nd).2).1
    exact nd (e ▸ List.mem_map_of_mem (f := (·.1)) (List.mem_append_left F u'.mem))
  obtain ⟨vs, n, el, rl⟩ := S₂.list (List.mem_append_left F (.tail _ u.mem))
  obtain ⟨ws, n2, ew, rw'⟩ := S₂.list (List.mem_append_left F (.tail _ hw))
  have hvs : vs.size = xs.length := by rw [← rl.length]; simp
  have hws : ws.size = ys.length := by rw [← rw'.length]; simp
  rw [arm_eval_Slice]
  refine wpAny_bind (wpAny_bind (wpAny_pure (wpAny_pure ?_)))
  refine wpAny_bind (wpAny_holding (wpAny_bind (wpAny_pure (wpAny_pure ?_))))
  refine wpAny_bind (wpAny_holding (wpAny_bind (wpAny_pure (wpAny_pure ?_))))
  refine wpAny_newObj_type ?_
  have S₃ := S₂.grow (h' := h₂.push { cls := .type "slice", data := .fields #[.none, .none, .none] }) fun b o e => Heap.get?_push_of_some _ e
  have gl : (h₂.push { cls := .type "slice", data := .fields #[.none, .none, .none] }).get? l = some { cls := .type "list", data := .seq vs n } := Heap.get?_push_of_some _ el
  have gw : (h₂.push { cls := .type "slice", data := .fields #[.none, .none, .none] }).get? w = some { cls := .type "list", data := .seq ws n2 } := Heap.get?_push_of_some _ ew
  have gs : (h₂.push { cls := .type "slice", data := .fields #[.none, .none, .none] }).get? h₂.objs.size = some { cls := .type "slice", data := .fields #[.none, .none, .none] } := Heap.get?_push_size _ rfl
  generalize (h₂.push { cls := .type "slice", data := .fields #[.none, .none, .none] }) = h₃ at S₃ gl gw gs ⊢
  unfold setItem
  refine wpAny_holding ?_
  have hl : h₃.IsList l vs := isList_of gl
  refine wpAny_bind (wpAny_sequenceKey (T := "list") ⟨_, gl, rfl⟩ (by decide) ?_)
  refine wpAny_bind (wpAny_callSpecial?_slot (name := Str.ofString "__setitem__") (T := "list") ⟨_, gl, rfl⟩ PySem.F.slot_list_setitem
    (call_meets PySem.F.slot_list_setitem ⟨_, gl, rfl⟩ PySem.F.entry_list_setitem (PySem.F.args_list_setitem_3 _ _ _) (set_all l h₂.objs.size w vs ws n n2 hne) ⟨gl, gs, gw, by lia, by lia, fun h' tk n' g hb => wpAny_pure ?_⟩))
  exact k _ _ _ _ ⟨.next, m, (w, .list ys) :: H₃, rfl, trivial, q⟩ (S₃.mut u hb g ⟨_, _, rfl, rw'⟩)
theorem EV.sliceAll {value : Expr} {p pos : Pos} {Q : AV → HS → Prop}
    (h : EV C A value env m H fun a H₁ => ∃ l xs, a = .ref l ∧ (l, AO.list xs) ∈ H₁ ∧ xs.length ≤ 1000 ∧ ∀ b, Q (.ref b) ((b, .list xs) :: H₁)) : EV C A (.Subscript value (.Slice Option.none Option.none Option.none p) pos) env m H Q := by
  refine EV.sub (TV.mono h fun a H₁ ⟨l, xs, e, hm, hsz, q⟩ => ?_)
  subst e
  show EV C A (.Slice Option.none Option.none Option.none p) env m H₁ _
  intro F s Qc E S k
  rw [arm_eval_Slice]
  refine wpAny_bind (wpAny_bind (wpAny_pure (wpAny_pure ?_)))
  refine wpAny_bind (wpAny_holding (wpAny_bind (wpAny_pure (wpAny_pure ?_))))
  refine wpAny_bind (wpAny_holding (wpAny_bind (wpAny_pure (wpAny_pure ?_))))
  refine wpAny_newObj_type ?_
  refine k _ _ _ _ ⟨.ref s.heap.objs.size, (s.heap.objs.size, .raw { cls := .type "slice", data := .fields #[.none, .none, .none] }) :: H₁, rfl, .ref _, ?_⟩ (Sat.new S rfl)
  generalize s.heap.objs.size = sl
  intro Va Vb ia ib F s Qc E S k; obtain ⟨_, rfl⟩ := ia.inv; obtain ⟨_, rfl⟩ := ib.inv
  obtain ⟨vs, n, e, r⟩ := S.list (List.mem_append_left F (.tail _ (.tail _ hm)))
  obtain ⟨_, ob, es, rfl⟩ := S.at_ _ (List.mem_append_left F (.tail _ (.head _)))
  have hlen : vs.size = xs.length := by rw [← r.length]; simp
  have hl : s.heap.IsList l vs := isList_of e
  refine tail_any hl.typeIs slot_list_getitem.lookup (wpAny_getItem_list_slice hl (lo := Option.none) (hi := Option.none) (st := Option.none) ⟨_, es, rfl, rfl⟩ .none .none .none (by simp) ?_ (by rw [hlen, sizeLine_eq]; lia)) (by intros; with_unfolding_all rfl)
  have hpk : slicePick vs Option.none Option.none Option.none = vs := by
    unfold slicePick
    have := pickL_all (l := vs.toList)
    unfold pickL at this
    simp only [Array.length_toList, Array.getElem?_toList] at this
    apply Array.toList_inj.mp
    simpa using this
  rw [hpk]
  refine k _ _ _ s.toks ⟨.ref s.heap.objs.size, (s.heap.objs.size, .list xs) :: H₁, rfl, .ref _, q _⟩ ?_
  have S' := Sat.new S (o := { cls := .type "list", data := .seq vs }) (ao := .list xs) ⟨_, _, rfl, r⟩
  exact (Sub.cons (Sub.cons (Sub.drop Sub.refl))) F C _ S'
end

theorem rep_str (c : Nat) : ∀ (n : Nat) (a : Array Nat), (List.replicate n (#[c] : Array Nat)).foldl (· ++ ·) a = a ++ (List.replicate n c).toArray
  | 0, a => by simp
  | n + 1, a => by
    rw [List.replicate_succ, List.foldl_cons, rep_str c n]
    rw [List.replicate_succ]
    apply Array.toList_inj.mp
    simp
section
variable {C : Cx} {A : Around} {L : Addr} {m : Loc} {H : HS} {Q : AV → HS → Prop}
theorem OP.muls {c n : Nat} (h1 : 2 ≤ n) (h2 : n ≤ 1000) (h : Q (.str (ofL (List.replicate n c))) H) : OP2 C A (binaryOp .Mult) (.str (ofL [c])) (.int (n : Int)) L m H Q := by
  intro Va Vb ia ib F s Qc E S k; obtain ⟨_, rfl⟩ := ia.inv; obtain ⟨_, rfl⟩ := ib.inv
  have l1 : (ofL [c]).length = 1 := ofL_len [c]
  refine PySem.P.mul_str ?_ (fun _ _ => ?_) (fun _ _ => ?_) ?_
  · rw [decide_eq_false (by lia), decide_eq_false (by lia)]; rfl
  · rw [l1]
    have : (2 ^ 63 - 1 : Int) / n ≥ 1 := by
      rw [ge_iff_le, Int.le_ediv_iff_mul_le (by lia)]; lia
    lia
  · rw [l1, Int.toNat_natCast, Nat.one_mul]
    unfold Builtin.Str.tooLong
    rw [decide_eq_false_iff_not, sizeLine_eq]; lia
  · rw [if_neg (by lia), if_neg (by rw [l1]; simp; lia)]
    have : (⟨(List.replicate (n : Int).toNat (ofL [c]).cps).foldl (· ++ ·) #[]⟩ : Str) = ofL (List.replicate n c) := by
      rw [Int.toNat_natCast, show (ofL [c]).cps = #[c] from rfl, rep_str]
      unfold ofL; congr 1; simp
    rw [this]
    refine ⟨?_, k _ _ s.heap _ ⟨_, H, rfl, .str _ _, h⟩ S⟩
    rw [ofL_len, List.length_replicate, sizeLine_eq]; lia
end

/- dicts of strs compared -/
set_option tactic.hygienic true in
theorem keqHits_all {A : Around} {s : Shared} {eb : List (Str × AV)} {kb : List (Str × Value)} (pb : DP eb kb) : ∀ {ea : List (Str × AV)} {ka : List (Str × Value)}, DP ea ka → (∀ kv ∈ ea, ∃ x, kv.2 = .str x ∧ dget eb kv.1 = some (.str x)) → KeqHits A s kb ka true
  | [], [], _, _ => .nil
  | (k, a) :: ea, (k', v) :: ka, ⟨e, i, h⟩, hh => by
    subst e
    obtain ⟨x, e1, e2⟩ := hh _ (.head _)
    simp only at e1 e2
    subst e1
    rcases pb.get k with ⟨b, y, g1, g2, j⟩ | ⟨g1, g2⟩
    · rw [e2] at g1; cases g1
      obtain ⟨_, rfl⟩ := i.inv; obtain ⟨_, rfl⟩ := j.inv
      refine KeqHits.hit (e := true) (b := true) g2 ?_ (keqHits_all pb h fun kv hkv => hh kv (.tail _ hkv))
      have := SeqAt.EqAt.str_str (A := A) (s := s) x ‹Tok› x ‹Tok›
      rw [beq_self_eq_true] at this
      rename_i t1 t2
      have := SeqAt.EqAt.str_str (A := A) (s := s) x t1 x t2
      rw [beq_self_eq_true] at this
      exact this
    · rw [e2] at g1; cases g1
theorem OP.eqDict {C : Cx} {A : Around} {L : Addr} {m : Loc} {H : HS} {Q : AV → HS → Prop} {a b : Addr} {ea eb : List (Str × AV)} (G : C.Ok) (ha : (a, AO.dict ea) ∈ H) (hb : (b, AO.dict eb) ∈ H) (hu : A.units < cLine) (hl : ea.length = eb.length)
    (hh : ∀ kv ∈ ea, ∃ x, kv.2 = .str x ∧ dget eb kv.1 = some (.str x)) (h : Q (.bool true) H) : OP2 C A (compareOp .Eq) (.ref a) (.ref b) L m H Q := by
  intro Va Vb ia ib F s Qc E S k; obtain ⟨_, rfl⟩ := ia.inv; obtain ⟨_, rfl⟩ := ib.inv
  have ha' := List.mem_append_left F (List.Mem.tail (L, AO.ns m) ha)
  have hb' := List.mem_append_left F (List.Mem.tail (L, AO.ns m) hb)
  obtain ⟨ka, Da, pa⟩ := S.dict ha'
  obtain ⟨kb, Db, pb⟩ := S.dict hb'
  refine keq_eq (r := true) (S.notMods G ha') (S.notMods G hb') Da Db hu (fun _ => keqHits_all pb pa hh) ?_
  rw [pa.length, pb.length, hl, beq_self_eq_true, Bool.true_and]
  exact k _ _ s.heap _ ⟨_, H, rfl, .bool _, h⟩ S

section
variable {C : Cx} {A : Around} {env : Env} {L : Addr} {m : Loc} {H : HS} {Q : AV → HS → Prop}
/- values of `and` and `or` -/
theorem EV.and2 {x y : Expr} {pos : Pos} (h : EV C A x env m H fun v H₁ => TRU C A v env.locals m H₁ fun c H₂ => if c = true then EV C A y env m H₂ Q else Q v H₂) : EV C A (.BoolOp .And [x, y] pos) env m H Q := by
  intro F s Qc E S k
  refine BoolOp_and (TV.at h S fun v V H₁ h₁ t₁ iv q₁ S₁ => q₁ V iv F { s with heap := h₁, toks := t₁ } _ _ S₁ fun c _ h₂ t₂ ⟨H₂, e, q₂⟩ S₂ => ?_)
  subst e
  cases c
  · exact k _ _ _ _ ⟨v, H₂, rfl, iv, q₂⟩ S₂
  · exact BoolOp_one (q₂ F { s with heap := h₂, toks := t₂ } _ _ S₂ k)
theorem EV.or2 {x y : Expr} {pos : Pos} (h : EV C A x env m H fun v H₁ => TRU C A v env.locals m H₁ fun c H₂ => if c = true then Q v H₂ else EV C A y env m H₂ Q) : EV C A (.BoolOp .Or [x, y] pos) env m H Q := by
  intro F s Qc E S k
  refine BoolOp_or (TV.at h S fun v V H₁ h₁ t₁ iv q₁ S₁ => q₁ V iv F { s with heap := h₁, toks := t₁ } _ _ S₁ fun c _ h₂ t₂ ⟨H₂, e, q₂⟩ S₂ => ?_)
  subst e
  cases c
  · exact BoolOp_one (q₂ F { s with heap := h₂, toks := t₂ } _ _ S₂ k)
  · exact k _ _ _ _ ⟨v, H₂, rfl, iv, q₂⟩ S₂
/- list(dict) -/
theorem keys_of {C : Cx} {es : List (Str × AV)} {kvs : List (Str × Value)} (p : DP es kvs) : ∀ {vs : List Value}, vs.length = kvs.length → (∀ (j : Nat) (v : Value), vs[j]? = some v → ∃ (k : Str) (x : Value), kvs[j]? = some (k, x) ∧ (strKind C.prog C.w).is k v = true) → All2 (es.map fun kv => .str kv.1) vs := by
  induction es generalizing kvs with
  | nil =>
    intro vs hl h
    cases kvs with
    | cons _ _ => exact p.elim
    | nil => cases vs with
      | nil => trivial
      | cons _ _ => cases hl
  | cons e es ih =>
    intro vs hl h
    cases kvs with
    | nil => exact p.elim
    | cons kv kvs =>
    cases vs with
    | nil => cases hl
    | cons v vs =>
    obtain ⟨e1, i, p⟩ := p
    refine ⟨?_, ih p (by simpa using hl) fun j u hu => by simpa using h (j + 1) u (by simpa using hu)⟩
    obtain ⟨k, x, hk, hv⟩ := h 0 v rfl
    cases hk
    obtain ⟨t, rfl⟩ := Value.isStrOf_shape hv
    show Is (.str e.1) _
    rw [e1]; exact .str _ _
theorem CB.listDict {d : Addr} {es : List (Str × AV)} (G : C.Ok) (hh : A.handled = none) (hm : (d, AO.dict es) ∈ H) (hsz : es.length ≤ 1000) (h : ∀ b, Q (.ref b) ((b, .list (es.map fun kv => .str kv.1)) :: H)) : OPL C A (fun Vs => call (.type "list") Vs) [.ref d] L m H Q :=
  .one fun V i F s Qc E S k => by
    obtain ⟨_, rfl⟩ := i.inv
    have hm' := List.mem_append_left F (List.Mem.tail (L, AO.ns m) hm)
    obtain ⟨kvs, D, p⟩ := S.dict hm'
    obtain ⟨ep, hat⟩ := D.dictAt
    refine kdl_call (kdl_dict (knd := strKind C.prog C.w) (kvs := kvs) (ep := ep) (S.notMods G hm')) hh hat (by rw [p.length]; exact Nat.le_trans hsz (by decide)) fun h' tk acc c hk ho hit => ?_
    refine k _ _ _ _ ⟨_, _, rfl, .ref _, h _⟩ (S.grown hk ?_ ho ⟨acc, c, rfl, keys_of (C := C) p (by rw [Array.length_toList]; exact hit.1) fun j v e => hit.2 j v (by rw [← Array.getElem?_toList]; exact e)⟩)
    cases q : s.heap.get? s.heap.objs.size with
    | none => rfl
    | some o => exact absurd (Heap.lt_size q) (Nat.lt_irrefl _)
/- a slice with a step -/
theorem sub_step {prog : Program} {w : World} {E : Value → Shared → Prop} {s : Shared} {value st : Expr} {lower upper : Option Expr} {p pos : Pos} {T id : String} {Q : Value → Shared → Prop}
    (hl : typeLookup (.type T) "__getitem__" = pure (some (.builtin id)))
    (h : wpAny (model prog w) A (eval value env) (fun o s₁ => wpAny (model prog w) A (eval (.Slice lower upper (some st) p) env) (fun i s₂ => s₂.TypeIs o T ∧ wpAny (model prog w) A (getItem o i) Q E s₂) E s₁) E s) :
    wpAny (model prog w) A (eval (.Subscript value (.Slice lower upper (some st) p) pos) env) Q E s := by
  rw [eval_Subscript]
  refine wpAny_bind (wpAny_mono h (fun o s₁ h₁ => wpAny_bind (wpAny_holding (wpAny_mono h₁ (fun i s₂ h₂ => wpAny_bind (wpAny_standAt ?_)) fun _ _ x => x))) fun _ _ x => x)
  have fin : wpAny (model prog w) A (operate [o, i] (getItem o i)) (fun r s₃ => wpAny (model prog w) A (letTemporaryGo value o r >>= fun _ => pure r) Q E s₃) E s₂ :=
    wpAny_operating (wpAny_mono h₂.2 (fun r s₃ h₃ => wpAny_bind (wpAny_letTemporaryGo (wpAny_pure h₃))) fun _ _ x => x)
  refine wpAny_bind ?_
  rw [getitemInPython_of_ne h₂.1.not_modules]
  refine wpAny_bind (wpAny_specialOf h₂.1 hl ?_)
  exact wpAny_pure (wpAny_bind fin)
set_option tactic.hygienic true in
theorem EV.sliceL3 {value st : Expr} {lower upper : Option Expr} {p pos : Pos}
    (h : EV C A value env m H fun a H₁ => EP C A lower env m H₁ fun lo H₂ => EP C A upper env m H₂ fun hi H₃ => EV C A st env m H₃ fun sv H₄ => ∃ i l xs, sv = .int i ∧ i ≠ 0 ∧ a = .ref l ∧ (l, AO.list xs) ∈ H₄ ∧ xs.length ≤ 1000 ∧ ∀ b, Q (.ref b) ((b, .list (pickL xs lo hi (some i))) :: H₄)) : EV C A (.Subscript value (.Slice lower upper (some st) p) pos) env m H Q := by
  intro F s Qc E S k
  refine sub_step (T := "list") list_getitem_lookup (TV.at h S fun a Va H₁ h₁ t₁ ia q₁ S₁ => wpAny_Slice (TV.at q₁ (s := { s with heap := h₁, toks := t₁ }) S₁ fun b Vb H₂ h₂ t₂ ib ⟨lo, pl, q₂⟩ S₂ => TV.at q₂ (s := { s with heap := h₂, toks := t₂ }) S₂ fun c Vc H₃ h₃ t₃ ic ⟨hi, ph, q₃⟩ S₃ => ?_))
  rw [evalPart_some]
  refine TV.at q₃ (s := { s with heap := h₃, toks := t₃ }) S₃ fun d Vd H₄ h₄ t₄ id q₄ S₄ => ?_
  obtain ⟨i, l, xs, e1, i0, e, hm, hsz, q₄⟩ := q₄
  subst e; subst e1; obtain ⟨_, rfl⟩ := ia.inv; cases id
  obtain ⟨vs, n, e, r⟩ := S₄.list (List.mem_append_left F (.tail _ hm))
  have hlen : vs.size = xs.length := by rw [← r.length]; simp
  have hl : h₄.IsList l vs := isList_of e
  refine ⟨(hl.push _).typeIs, wpAny_getItem_list_slice (lo := lo) (hi := hi) (st := some i) (hl.push _) (Heap.IsSliceOf.new ..) (pl.is ib) (ph.is ic) (.int _ _) (by simpa using i0) ?_ (by rw [hlen]; exact Nat.le_trans hsz (by decide))⟩
  rename_i tk
  have S₅ := S₄.grow (h' := h₄.push { cls := .type "slice", data := .fields #[Vb, Vc, .int i tk] }) fun b o e => Heap.get?_push_of_some _ e
  have S₆ := Sat.new S₅ (o := { cls := .type "list", data := .seq (slicePick vs lo hi (some i)) }) (ao := .list (pickL xs lo hi (some i))) ⟨_, _, rfl, by
    unfold slicePick pickL
    rw [hlen]
    have := r.pick (sliceRange (sliceBounds lo hi (some i) xs.length).1 (sliceBounds lo hi (some i) xs.length).2.1 (sliceBounds lo hi (some i) xs.length).2.2)
    simpa using this⟩
  exact k _ _ _ _ ⟨_, _, rfl, .ref _, q₄ _⟩ S₆
end

local macro_rules | `(tactic| wtm_at "a") => `(tactic| with_reducible ((repeat (first | exact At.head | exact Put.head | exact Upd.head | exact Ext.head | assumption | apply At.tail | apply Put.tail | apply Upd.tail | apply Ext.tail)); (first | done | fail)))
local macro_rules | `(tactic| wtm_at "m") => `(tactic| with_reducible ((repeat (first | assumption | exact List.mem_cons_self | apply List.mem_cons_of_mem)); (first | done | fail)))
local macro_rules | `(tactic| wtm_at "n") => `(tactic| first
  | ((fail_if_success fail_if_success with_reducible show EV _ _ (Expr.Name _ _) _ _ _ _); first | ((with_reducible refine EV.locD ‹_› (by wtm_at "a") (by wtm_at "a") ?_ ?hu); (case hu => rfl)) | ((with_reducible refine EV.loc ‹_› (by wtm_at "a") (by wtm_at "a") ?_ ?hu); (case hu => first | assumption | nofun)) | (with_reducible refine EV.globK ‹_› ‹_› (by wtm_at "a") (by wtm_at "a") ?_) | ((with_reducible refine EV.cell ‹_› (by wtm_at "a") (by wtm_at "a") (by wtm_at "m") ?_ ?hu); (case hu => first | assumption | nofun)) | ((with_reducible refine EV.free ‹_› (by wtm_at "a") (by wtm_at "a") (by wtm_at "m") ?_ ?hu ?hd); (case hu => first | assumption | nofun); (case hd => decide)))
  | ((fail_if_success fail_if_success with_reducible show EV _ _ (Expr.Constant ..) ..); first | (with_reducible first | refine EV.int ?_ | refine EV.str ?_ | refine EV.bool ?_ | refine EV.none ?_ | refine EV.flt ?_))
  | ((fail_if_success fail_if_success with_reducible show EV _ _ (Expr.Call (Expr.Name ..) ..) ..); first | ((with_reducible refine EV.callBG ‹_› ‹_› (by wtm_at "a") (by wtm_at "a") ?_ ?he ?hp); (case he => rfl); (case hp => rfl)) | ((with_reducible refine EV.callTG ‹_› ‹_› (by wtm_at "a") (by wtm_at "a") ?_ ?he ?hp); (case he => rfl); (case hp => rfl)))
  | ((fail_if_success fail_if_success with_reducible show EV ..); first | (with_reducible first | refine EV.bin ?_ | refine EV.una ?_ | refine EV.ifx ?_ | refine EV.list ?_ | refine EV.tup ?_) | ((with_reducible refine EV.sub' ?_ ?hns); (case hns => rfl)) | ((with_reducible refine EV.cmp ?_ ?hm); (case hm => with_unfolding_all rfl)))
  | ((fail_if_success fail_if_success with_reducible show EL ..); first | (with_reducible refine EL.nil ?_) | ((with_reducible refine EL.cons ?_ ?he); (case he => rfl)))
  | ((fail_if_success fail_if_success with_reducible show OP2 ..); first | (with_reducible first | refine OP.add ?_ | refine OP.sub ?_ | refine OP.iadd ?_ | refine OP.xor ?_ | refine OP.eqi ?_ | refine OP.nei ?_ | refine OP.lti ?_ | refine OP.lei ?_ | refine OP.eqs ?_ | refine OP.nes ?_))
  | ((fail_if_success fail_if_success with_reducible show OP1 ..); first | (with_reducible first | refine OP.neg ?_ | refine OP.inv ?_))
  | ((fail_if_success fail_if_success with_reducible show ET ..); first | (with_reducible first | refine ET.and ?_ | refine ET.and1 ?_ | refine ET.or ?_ | refine ET.or1 ?_ | refine ET.not ?_) | ((fail_if_success fail_if_success with_reducible show ET _ _ (Expr.Name ..) ..); refine ET.plain ?_) | ((with_reducible refine ET.cmp ?_ ?hm); (case hm => with_unfolding_all rfl)))
  | ((fail_if_success fail_if_success with_reducible show TRU ..); first | (with_reducible refine TRU.bool ?_))
  | ((fail_if_success fail_if_success with_reducible show EB ..); first | (with_reducible refine EB.ret ?_) | (with_reducible refine EB.if ?_) | ((with_reducible refine EB.assign ‹_› (by wtm_at "a") ?_ ?hs); (case hs => rfl)) | ((with_reducible refine EB.expr ‹_› ?_ ?hs); (case hs => rfl)) | ((with_reducible refine EB.for ?_ ?hs); (case hs => intros; rfl)) | ((with_reducible refine EB.assignC ‹_› (by wtm_at "a") (by wtm_at "a") ?_ ?hs); (case hs => rfl)) | ((with_reducible refine EB.augSub ?_ ?hi); (case hi => intros; rfl)) | ((with_reducible refine EB.assignSub ?_ ?hs); (case hs => rfl)) | (with_reducible refine EB.augName ‹_› (by wtm_at "a") ?_))
  | ((fail_if_success fail_if_success with_reducible show LDN ..); first | ((with_reducible refine LDN.loc ‹_› (by wtm_at "a") (by wtm_at "a") ?_ ?hu); (case hu => first | assumption | nofun)))
  | ((fail_if_success fail_if_success with_reducible show ASG ..); first | (with_reducible refine ASG.name ‹_› (by wtm_at "a") (by wtm_at "a") ?_))
  | ((fail_if_success fail_if_success with_reducible show Exists (fun _ => And (Put ..) _)); (with_reducible refine exPutE (by wtm_at "a") ?_))
  | ((fail_if_success fail_if_success with_reducible show Exists (fun _ => Exists (fun _ => And (Mine.Upd ..) _))); (with_reducible refine exUpd2 (by wtm_at "a") ?_)))
local macro_rules | `(tactic| wtm_at "sub") => `(tactic| (repeat (first | with_reducible exact Sub.refl | with_reducible exact Sub.left | ((fail_if_success fail_if_success with_reducible show Sub (List.cons _ _) _); (with_reducible refine Sub.ext (by wtm_at "a") ?_)) | ((fail_if_success fail_if_success with_reducible show Sub _ (List.cons _ _)); (with_reducible refine Sub.drop ?_)))))

noncomputable def cellAt (ns : List Int) : Nat → List Int
  | 0 => [0, 0, 0, 1, 4, 2]
  | k + 1 => (cellAt ns k).set (k % 6) ((cellAt ns k).getD (k % 6) 0 + (ns.getD k 0).fmod 1000000)
noncomputable def cellsS (ns : List Int) : List Int := cellAt ns (min ns.length 18)
theorem cellAt_len (ns : List Int) : ∀ k, (cellAt ns k).length = 6
  | 0 => rfl
  | k + 1 => by rw [cellAt, List.length_set]; exact cellAt_len ns k

theorem K_cells {C : Cx} {A : Around} {L : Addr} {m : Loc} {H : HS} {Q : AV → HS → Prop} {n : Nat} (K : KX C) (R : Rm A (n + 1)) {a : Addr} {ns : List Int} (hm : BaseL C a (ns.map .int)) (hl : ns.length ≤ 63)
    (h : ∀ b, Q (.ref b) ((b, .list ((cellsS ns).map .int)) :: H)) : OPL C A (fun Vs => call (.ref 255) Vs) [.ref a] L m H Q := by
  unfold cellsS at h
  refine FnK.call K.f_cells K.G R ["script", "cells", "k"] rfl (by decide +kernel) fun env cs hc E => ?_
  replace hc : cs = [] := List.eq_nil_of_length_eq_zero hc
  subst hc
  simp only [List.zip_cons_cons, List.zip_nil_left, List.map_cons, List.map_nil, newCells, List.nil_append]
  simp only [BNDA]
  refine STN.loc E (by wtm_at "a") (by wtm_at "a") ?_
  conv => arg 3; whnf
  have hh : (A.deeper env).handled = none := R.handled
  repeat wtm_at "n"
  refine ⟨by decide, fun b => ?_⟩
  repeat wtm_at "n"
  refine CB.lenBase hm (by simp; lia) ?_
  repeat wtm_at "n"
  refine CB.min2 hh ?_
  repeat wtm_at "n"
  refine CB.range1 fun r => ?_
  obtain ⟨J1, hJ1⟩ : ∃ J : Nat → Loc → HS → Prop, ∀ i m' H', J i m' H' ↔ (∀ P : Prop, (∀ kv, m' = ([("script", .ref a), ("cells", .ref b), ("k", kv)] : Loc) → H' = (r, .rng 0 (if 18 < ((ns.map AV.int).length : Int) then 18 else ((ns.map AV.int).length : Int)) 1) :: (b, .list ((cellAt ns i).map .int)) :: (L, .ns m) :: H → P) → P) := ⟨_, fun _ _ _ => Iff.rfl⟩
  refine forR (min ns.length 18) J1 ?_ (by lia) hh ((hJ1 _ _ _).mpr fun _ kk => kk _ rfl rfl) (fun i m' H' hi hj => ?_) fun m' H' hj => ?_
  · rw [List.length_map]; split <;> lia
  · refine (hJ1 _ _ _).mp hj _ fun kv ee1 ee2 => ?_
    subst ee1; subst ee2
    repeat wtm_at "n"
    refine OP.fmod (by decide) ?_
    have hlen := cellAt_len ns i
    have e6 : (i : Int).fmod 6 = ((i % 6 : Nat) : Int) := by rw [Int.fmod_eq_emod_of_nonneg _ (by decide)]; lia
    have h6 : i % 6 < 6 := Nat.mod_lt _ (by decide)
    rw [e6]
    refine GI.list (by wtm_at "m") (j := i % 6) (x := .int ((cellAt ns i).getD (i % 6) 0)) ?_ ?_ ?_
    · simp [seqIndex?, hlen]; lia
    · rw [List.getElem?_map, List.getD_eq_getElem?_getD, List.getElem?_eq_getElem (by lia)]; rfl
    repeat wtm_at "n"
    refine SUB.base hm (by lia) (by lia) (x := .int (ns.getD i 0)) ?_ ?_
    · rw [List.getElem?_map, List.getD_eq_getElem?_getD, Int.toNat_natCast, List.getElem?_eq_getElem (by lia)]; rfl
    repeat wtm_at "n"
    refine OP.fmod (by decide) ?_
    repeat wtm_at "n"
    refine ST.list' (by wtm_at "a") (by lia) (by simp [hlen]; lia) (by lia) rfl ?_
    refine EB.nil ((hJ1 _ _ _).mpr fun _ kk => kk _ rfl ?_)
    rw [cellAt, List.map_set, Int.toNat_natCast]
  · refine (hJ1 _ _ _).mp hj _ fun kv ee1 ee2 => ?_
    subst ee1; subst ee2
    repeat wtm_at "n"
    exact ⟨_, by wtm_at "sub", h b⟩

theorem map_eraseIdx {α β : Type} (f : α → β) : ∀ (l : List α) (k : Nat), (l.map f).eraseIdx k = (l.eraseIdx k).map f
  | [], _ => rfl
  | _ :: _, 0 => rfl
  | a :: l, k + 1 => by rw [List.map_cons, List.eraseIdx_cons_succ, map_eraseIdx f l k, List.eraseIdx_cons_succ, List.map_cons]
/- _law_steps -/
noncomputable def kindsS (n : Nat) : Int := ((n : Int) - (2 * (n : Int)).fmod 3).fdiv 3 + 1
noncomputable def upsS (n : Nat) (turn : Int) : Int := (2 * (n : Int)).fmod 3 + 3 * ((turn + (kindsS n).fdiv 2).fmod (kindsS n))
/- after so many places: the bag, the order that is left, the steps -/
noncomputable def stS (n : Nat) (bag : List Int) (order : Int) : Nat → List Int × Int × List Int
  | 0 => (bag, order, [])
  | i + 1 =>
    let r := stS n bag order i
    let j := (r.2.1.fmod ((n - i : Nat) : Int)).toNat
    (r.1.eraseIdx j, r.2.1.fdiv ((n - i : Nat) : Int), r.2.2 ++ [r.1.getD j 0])
noncomputable def bagS (n : Nat) (turn : Int) : List Int := List.replicate (upsS n turn).toNat 1 ++ List.replicate ((n : Int) - upsS n turn).toNat (-1)
noncomputable def stepsS (n : Nat) (turn order : Int) : List Int := (stS n (bagS n turn) order n).2.2
theorem stS_len {n : Nat} {bag : List Int} {order : Int} (h : bag.length = n) : ∀ i, i ≤ n → (stS n bag order i).1.length = n - i ∧ (stS n bag order i).2.2.length = i
  | 0, _ => ⟨h, rfl⟩
  | i + 1, hi => by
    obtain ⟨h1, h2⟩ := stS_len (order := order) h i (by lia)
    have hp : (0 : Int) < ((n - i : Nat) : Int) := by lia
    have hb := Int.fmod_lt_of_pos ((stS n bag order i).2.1) hp
    have hn := Int.fmod_nonneg_of_pos ((stS n bag order i).2.1) hp
    refine ⟨?_, ?_⟩
    · show List.length (List.eraseIdx _ _) = _
      rw [List.length_eraseIdx_of_lt (by rw [h1]; omega), h1]; lia
    · show List.length (_ ++ _) = _
      rw [List.length_append, h2]; rfl
theorem ups_le {n : Nat} {turn : Int} (h1 : 4 ≤ n) (h2 : n ≤ 6) : 0 ≤ upsS n turn ∧ upsS n turn ≤ n := by
  have : n = 4 ∨ n = 5 ∨ n = 6 := by lia
  unfold upsS
  rcases this with rfl | rfl | rfl
  · rw [show kindsS 4 = 1 by decide, show ((2 * ((4 : Nat) : Int)).fmod 3) = 2 by decide, Int.fmod_eq_emod_of_nonneg _ (show (0 : Int) ≤ 1 by decide)]
    lia
  · rw [show kindsS 5 = 2 by decide, show ((2 * ((5 : Nat) : Int)).fmod 3) = 1 by decide, Int.fmod_eq_emod_of_nonneg _ (show (0 : Int) ≤ 2 by decide)]
    lia
  · rw [show kindsS 6 = 3 by decide, show ((2 * ((6 : Nat) : Int)).fmod 3) = 0 by decide, Int.fmod_eq_emod_of_nonneg _ (show (0 : Int) ≤ 3 by decide)]
    lia
theorem bagS_len {n : Nat} {turn : Int} (h1 : 4 ≤ n) (h2 : n ≤ 6) : (bagS n turn).length = n := by
  have := ups_le (turn := turn) h1 h2
  unfold bagS; rw [List.length_append, List.length_replicate, List.length_replicate]; lia
theorem kinds_pos {n : Nat} (h1 : 4 ≤ n) (h2 : n ≤ 6) : kindsS n = 1 ∨ kindsS n = 2 ∨ kindsS n = 3 := by
  have : n = 4 ∨ n = 5 ∨ n = 6 := by lia
  rcases this with rfl | rfl | rfl
  · exact .inl (by decide)
  · exact .inr (.inl (by decide))
  · exact .inr (.inr (by decide))

theorem K_steps {C : Cx} {A : Around} {L : Addr} {m : Loc} {H : HS} {Q : AV → HS → Prop} {n : Nat} (K : KX C) {d : Nat} (R : Rm A (d + 1)) {turn order : Int} (h4 : 4 ≤ n) (h6 : n ≤ 6)
    (h : ∀ b, Q (.ref b) ((b, .list ((stepsS n turn order).map .int)) :: H)) : OPL C A (fun Vs => call (.ref 262) Vs) [.int n, .int turn, .int order] L m H Q := by
  unfold stepsS at h
  refine FnK.call K.f_steps K.G R ["n", "turn", "order", "kinds", "ups", "bag", "steps", "size"] rfl (by decide +kernel) fun env cs hc E => ?_
  replace hc : cs = [] := List.eq_nil_of_length_eq_zero hc
  subst hc
  simp only [List.zip_cons_cons, List.zip_nil_left, List.map_cons, List.map_nil, newCells, List.nil_append]
  simp only [BNDA]
  refine STN.loc E (by wtm_at "a") (by wtm_at "a") (STN.loc E (by wtm_at "a") (by wtm_at "a") (STN.loc E (by wtm_at "a") (by wtm_at "a") ?_))
  conv => arg 3; whnf
  have hh : (A.deeper env).handled = none := R.handled
  have hk := kinds_pos h4 h6
  have hu := ups_le (turn := turn) h4 h6
  have hbl := bagS_len (turn := turn) h4 h6
  repeat wtm_at "n"
  refine OP.mul (by decide) ?_
  repeat wtm_at "n"
  refine OP.fmod (by decide) ?_
  repeat wtm_at "n"
  refine OP.fdiv (by decide) (by decide) ?_
  repeat wtm_at "n"
  rw [show ((n : Int) - (2 * (n : Int)).fmod 3).fdiv 3 + 1 = kindsS n from rfl]
  repeat wtm_at "n"
  refine OP.mul (by decide) ?_
  repeat wtm_at "n"
  refine OP.fmod (by decide) ?_
  repeat wtm_at "n"
  refine OP.fdiv (by decide) (by decide) ?_
  repeat wtm_at "n"
  refine OP.fmod (by lia) ?_
  refine OP.mul (by decide) ?_
  repeat wtm_at "n"
  rw [show (2 * (n : Int)).fmod 3 + 3 * ((turn + (kindsS n).fdiv 2).fmod (kindsS n)) = upsS n turn from rfl]
  repeat wtm_at "n"
  refine ⟨by decide, fun b1 => ?_⟩
  repeat wtm_at "n"
  refine OP.mull (by wtm_at "m") hu.1 (by lia) fun b2 => ?_
  repeat wtm_at "n"
  refine ⟨by decide, fun b3 => ?_⟩
  repeat wtm_at "n"
  refine OP.mull (by wtm_at "m") (by lia) (by lia) fun b4 => ?_
  refine OP.addl (by wtm_at "m") (by wtm_at "m") (by simp only [List.length_replicate]; omega) fun b5 => ?_
  wtm_at "n"
  refine EB.sub (H' := (b5, .list ((bagS n turn).map .int)) :: (L, .ns m) :: H) ?_ ?_
  · rw [show (bagS n turn).map AV.int = List.replicate (upsS n turn).toNat (AV.int 1) ++ List.replicate ((n : Int) - upsS n turn).toNat (AV.int (-1)) by unfold bagS; rw [List.map_append, List.map_replicate, List.map_replicate]]
    wtm_at "sub"
  repeat wtm_at "n"
  refine ⟨by decide, fun b6 => ?_⟩
  repeat wtm_at "n"
  refine CB.range3 (by decide) (by decide) fun r => ?_
  obtain ⟨J1, hJ1⟩ : ∃ J : Nat → Loc → HS → Prop, ∀ i m' H', J i m' H' ↔ (∀ P : Prop, (∀ sv, m' = ([("n", .int n), ("turn", .int turn), ("order", .int (stS n (bagS n turn) order i).2.1), ("kinds", .int (kindsS n)), ("ups", .int (upsS n turn)), ("bag", .ref b5), ("steps", .ref b6), ("size", sv)] : Loc) → H' = (r, .rng n 0 (-1)) :: (b6, .list ((stS n (bagS n turn) order i).2.2.map .int)) :: (b5, .list ((stS n (bagS n turn) order i).1.map .int)) :: (L, .ns m) :: H → P) → P) := ⟨_, fun _ _ _ => Iff.rfl⟩
  refine forR3 n J1 ?_ ?_ hh ?_ (fun i m' H' hi hj => ?_) fun m' H' hj => ?_
  · have : n = 4 ∨ n = 5 ∨ n = 6 := by lia
    rcases this with rfl | rfl | rfl <;> decide
  · have : n = 4 ∨ n = 5 ∨ n = 6 := by lia
    rcases this with rfl | rfl | rfl <;> decide
  · exact ((hJ1 _ _ _).mpr fun _ kk => kk _ rfl rfl)
  · refine (hJ1 _ _ _).mp hj _ fun sv ee1 ee2 => ?_
    subst ee1; subst ee2
    obtain ⟨hl1, hl2⟩ := stS_len (order := order) hbl i (by lia)
    have es : (n : Int) + (i : Int) * (-1) = ((n - i : Nat) : Int) := by lia
    rw [es]
    have hp : (0 : Int) < ((n - i : Nat) : Int) := by lia
    have hb := Int.fmod_lt_of_pos ((stS n (bagS n turn) order i).2.1) hp
    have hn := Int.fmod_nonneg_of_pos ((stS n (bagS n turn) order i).2.1) hp
    generalize hq : stS n (bagS n turn) order i = q at *
    obtain ⟨bag, ord, sts⟩ := q
    simp only at hl1 hl2 hb hn ⊢
    repeat wtm_at "n"
    refine EV.append ?_
    repeat wtm_at "n"
    refine ⟨_, _, rfl, by wtm_at "m", ?_⟩
    refine EV.popAt ?_
    repeat wtm_at "n"
    refine ⟨_, _, rfl, by wtm_at "m", ?_⟩
    repeat wtm_at "n"
    refine OP.fmod (by lia) ?_
    refine ⟨_, _, (ord.fmod ((n - i : Nat) : Int)).toNat, .int (bag.getD (ord.fmod ((n - i : Nat) : Int)).toNat 0), _, rfl, by wtm_at "a", by simp; lia, by lia, ?_, ?_, ?_⟩
    · simp [seqIndex?, hl1]; omega
    · rw [List.getElem?_map, List.getD_eq_getElem?_getD, List.getElem?_eq_getElem (by omega)]; rfl
    refine ⟨_, _, by wtm_at "a", by simp; lia, ?_⟩
    repeat wtm_at "n"
    refine OP.fdiv (by lia) (by lia) ?_
    repeat wtm_at "n"
    refine EB.nil ((hJ1 _ _ _).mpr fun _ kk => kk (.int ((n - i : Nat) : Int)) ?_ ?_)
    · rw [stS, hq]
    · rw [stS, hq, List.map_append, map_eraseIdx]; rfl
  · refine (hJ1 _ _ _).mp hj _ fun sv ee1 ee2 => ?_
    subst ee1; subst ee2
    repeat wtm_at "n"
    exact ⟨_, by wtm_at "sub", h b6⟩

/- _law_heights -/
noncomputable def hAt (first : Int) (steps : List Int) : Nat → List Int
  | 0 => [15 + first]
  | i + 1 => hAt first steps i ++ [(hAt first steps i).getLastD 0 + steps.getD i 0]
noncomputable def heightsS (first : Int) (steps : List Int) : List Int := hAt first steps (steps.length - 1)
theorem hAt_len (first : Int) (steps : List Int) : ∀ i, (hAt first steps i).length = i + 1
  | 0 => rfl
  | i + 1 => by rw [hAt, List.length_append, hAt_len first steps i]; rfl
theorem K_heights {C : Cx} {A : Around} {L : Addr} {m : Loc} {H : HS} {Q : AV → HS → Prop} (K : KX C) {d : Nat} (R : Rm A (d + 1)) {first : Int} {a : Addr} {steps : List Int} (hm : (a, AO.list (steps.map .int)) ∈ H) (h1 : 1 ≤ steps.length) (h2 : steps.length ≤ 10)
    (h : ∀ b, Q (.ref b) ((b, .list ((heightsS first steps).map .int)) :: H)) : OPL C A (fun Vs => call (.ref 269) Vs) [.int first, .ref a] L m H Q := by
  unfold heightsS at h
  refine FnK.call K.f_heights K.G R ["first", "steps", "heights", "step"] rfl (by decide +kernel) fun env cs hc E => ?_
  replace hc : cs = [] := List.eq_nil_of_length_eq_zero hc
  subst hc
  simp only [List.zip_cons_cons, List.zip_nil_left, List.map_cons, List.map_nil, newCells, List.nil_append]
  simp only [BNDA]
  refine STN.loc E (by wtm_at "a") (by wtm_at "a") (STN.loc E (by wtm_at "a") (by wtm_at "a") ?_)
  conv => arg 3; whnf
  have hh : (A.deeper env).handled = none := R.handled
  repeat wtm_at "n"
  refine ⟨Nat.le_of_ble_eq_true rfl, fun b => ?_⟩
  repeat wtm_at "n"
  refine EV.sliceL ?_
  repeat wtm_at "n"
  refine EP.none (EP.some ?_)
  repeat wtm_at "n"
  refine ⟨_, rfl, _, _, rfl, by wtm_at "m", by simp; lia, fun c => ?_⟩
  rw [pickL_last (by simp; omega), List.length_map, ← List.map_take]
  obtain ⟨J1, hJ1⟩ : ∃ J : Nat → Loc → HS → Prop, ∀ i m' H', J i m' H' ↔ (∀ P : Prop, (∀ sv, m' = ([("first", .int first), ("steps", .ref a), ("heights", .ref b), ("step", sv)] : Loc) → H' = (c, .list ((steps.take (steps.length - 1)).map .int)) :: (b, .list ((hAt first steps i).map .int)) :: (L, .ns m) :: H → P) → P) := ⟨_, fun _ _ _ => Iff.rfl⟩
  refine forL J1 (by wtm_at "m") hh ((hJ1 _ _ _).mpr fun _ kk => kk _ rfl rfl) ?_ (fun i x m' H' hx hj => ?_) fun m' H' hj => ?_
  · intro i m' H' hj; refine (hJ1 _ _ _).mp hj _ fun sv ee1 ee2 => ?_; subst ee1; subst ee2; wtm_at "m"
  · refine (hJ1 _ _ _).mp hj _ fun sv ee1 ee2 => ?_
    subst ee1; subst ee2
    have hi : i < steps.length - 1 := by
      have := (List.getElem?_eq_some_iff.mp hx).1
      simp at this; omega
    have ex : x = .int (steps.getD i 0) := by
      rw [List.getElem?_map, List.getElem?_take_of_lt hi, List.getElem?_eq_getElem (by omega)] at hx
      rw [List.getD_eq_getElem?_getD, List.getElem?_eq_getElem (by omega)]
      exact (Option.some.inj hx).symm
    subst ex
    have hlen := hAt_len first steps i
    repeat wtm_at "n"
    refine EV.append ?_
    repeat wtm_at "n"
    refine ⟨_, _, rfl, by wtm_at "m", ?_⟩
    repeat wtm_at "n"
    refine SUB.list (by wtm_at "m") (j := i) (x := .int ((hAt first steps i).getLastD 0)) ?_ ?_ ?_
    · simp [seqIndex?, hlen]; lia
    · rw [List.getElem?_map, List.getLastD_eq_getLast?, List.getLast?_eq_getElem?, hlen, show i + 1 - 1 = i by lia, List.getElem?_eq_getElem (by lia)]; rfl
    repeat wtm_at "n"
    refine ⟨_, _, by wtm_at "a", by simp; lia, ?_⟩
    refine EB.nil ((hJ1 _ _ _).mpr fun _ kk => kk (.int (steps.getD i 0)) rfl ?_)
    rw [hAt, List.map_append]; rfl
  · refine (hJ1 _ _ _).mp hj _ fun sv ee1 ee2 => ?_
    subst ee1; subst ee2
    rw [List.length_map, List.length_take, Nat.min_eq_left (by lia)]
    repeat wtm_at "n"
    exact ⟨_, by wtm_at "sub", h b⟩

/- _law_word -/
noncomputable def hueOf (x : Int) : Nat := if x.fmod 3 = 0 then 114 else if x.fmod 3 = 1 then 103 else 98
noncomputable def wordS (hs : List Int) : List Nat := hs.map hueOf
theorem hue_str (x : Int) : ∃ j : Nat, seqIndex? (x.fmod 3) 3 = some j ∧ (Str.ofString "rgb").cps[j]? = some (hueOf x) ∧ -(2 ^ 63) ≤ x.fmod 3 ∧ x.fmod 3 < 2 ^ 63 := by
  have h1 := Int.fmod_nonneg_of_pos x (show (0 : Int) < 3 by decide)
  have h2 := Int.fmod_lt_of_pos x (show (0 : Int) < 3 by decide)
  have : x.fmod 3 = 0 ∨ x.fmod 3 = 1 ∨ x.fmod 3 = 2 := by lia
  unfold hueOf
  rcases this with e | e | e <;> rw [e]
  · exact ⟨0, by decide, by decide, by decide, by decide⟩
  · exact ⟨1, by decide, by decide, by decide, by decide⟩
  · exact ⟨2, by decide, by decide, by decide, by decide⟩
theorem SUB.hue {C : Cx} {A : Around} {L : Addr} {m : Loc} {H : HS} {value slice : Expr} {Q : AV → HS → Prop} {x : Int} (h : Q (.str (ofL [hueOf x])) H)
    (hs : autoParam (∀ t u, subscripted slice false (.str (Str.ofString "rgb") t) (.int (x.fmod 3) u) = operate [.str (Str.ofString "rgb") t, .int (x.fmod 3) u] (getItem (.str (Str.ofString "rgb") t) (.int (x.fmod 3) u))) aIIU) : SUB C A value slice (.str (Str.ofString "rgb")) (.int (x.fmod 3)) L m H Q := by
  obtain ⟨j, h1, h2, h3⟩ := hue_str x
  exact SUB.str (j := j) h1 h2 h h3 hs
theorem K_word {C : Cx} {A : Around} {L : Addr} {m : Loc} {H : HS} {Q : AV → HS → Prop} (K : KX C) {d : Nat} (R : Rm A (d + 1)) {a : Addr} {hs : List Int} (hm : (a, AO.list (hs.map .int)) ∈ H) (h2 : hs.length ≤ 10)
    (h : Q (.str (ofL (wordS hs))) H) : OPL C A (fun Vs => call (.ref 274) Vs) [.ref a] L m H Q := by
  refine FnK.call K.f_word K.G R ["heights"] rfl (by decide +kernel) fun env cs hc E => ?_
  replace hc : cs = [] := List.eq_nil_of_length_eq_zero hc
  subst hc
  simp only [List.zip_cons_cons, List.zip_nil_left, List.map_cons, List.map_nil, newCells, List.nil_append]
  simp only [BNDA]
  refine STN.loc E (by wtm_at "a") (by wtm_at "a") ?_
  conv => arg 3; whnf
  have hh : (A.deeper env).handled = none := R.handled
  repeat wtm_at "n"
  refine EV.join ?_
  repeat wtm_at "n"
  refine ⟨_, rfl, ?_⟩
  refine EV.listComp (snames := nm_word_c) (names' := nm_word_c) (cls := []) (locs := [".0", "height"]) E (compSt0 rfl rfl rfl (by decide +kernel)) ?_
  repeat wtm_at "n"
  refine LCQ.pure (((wordS hs).map fun c => ofL [c]).map .str) (ITERS.list hh (List.Mem.tail _ (List.Mem.tail _ hm))) (fun cenv => List.Mem.tail _ (List.Mem.tail _ hm)) (by simp [wordS]) (by simp; lia) rfl (fun cenv E' i x y hx hy => ?_) fun c => ?_
  · simp only [wordS, List.map_map] at hy
    rw [List.getElem?_map, Option.map_eq_some_iff] at hx hy
    obtain ⟨n1, e1, rfl⟩ := hx
    obtain ⟨n2, e2, rfl⟩ := hy
    rw [e1] at e2; cases e2
    simp only [List.map_cons, List.map_nil]
    repeat wtm_at "n"
    refine OP.fmod (by decide) ?_
    refine SUB.hue ?_
    exact ⟨rfl, rfl, Sub.refl⟩
  · refine ⟨_, (wordS hs).map fun c => ofL [c], rfl, by wtm_at "m", ?_, H, by wtm_at "sub", ?_⟩
    · have : ∀ l : List Nat, ((l.map fun c => ofL [c]).map (·.length)).sum = l.length := fun l => by
        induction l with
        | nil => rfl
        | cons a l ih => rw [List.map_cons, List.map_cons, List.sum_cons, ih]; simp [ofL_len]; lia
      have e0 : (Str.ofString "").length = 0 := rfl
      rw [e0, this]; simp [wordS]; lia
    · have e : Txt.join (Str.ofString "") ((wordS hs).map fun c => ofL [c]) = ofL (wordS hs) := by
        rw [show Str.ofString "" = ofL [] from rfl, show ((wordS hs).map fun c => ofL [c]) = ((wordS hs).map fun c => [c]).map ofL by rw [List.map_map]; rfl, joinL]
        congr 1
        induction wordS hs with
        | nil => rfl
        | cons a l ih => simp [ih]
      rw [e]; exact h

/- _int2digits -/
noncomputable def noArgs : Arguments := ⟨[], [], none, [], [], none, []⟩
noncomputable def noScope : Scope := { kind := .function, names := [], isGenerator := false, isCoroutine := false, more := [] }
noncomputable def defParts : Stmt → Arguments × List Stmt × Scope
  | .FunctionDef _ a b _ _ _ s _ _ _ => (a, b, s)
  | _ => (noArgs, [], noScope)
noncomputable def i2dI : Arguments × List Stmt × Scope := match bodyOf 6 with
  | [_, d, _, _] => defParts d
  | _ => (noArgs, [], noScope)
noncomputable def d2iI : Arguments × List Stmt × Scope := match bodyOf 7 with
  | [d, _] => defParts d
  | _ => (noArgs, [], noScope)

section
variable {C : Cx} {A : Around} {L : Addr} {m : Loc} {H H' Hm : HS} {Q : AV → HS → Prop}
theorem K_i2d1 (K : KX C) {k : Nat} (R : Rm A (k + 1)) {f ca ci cn d : Addr} {qual : Str} (X : Inner C Hm f "inner" qual i2dI.1 i2dI.2.1 i2dI.2.2 [("a_digits", ca), ("inner", ci), ("n", cn)]) (hs : Sub Hm H) (hca : (ca, AO.cell (.ref d)) ∈ H)
    {x l : Int} {xs ys : List AV} (u : Mine.Upd H d (.list xs) (.list ys) H') (h0 : 0 ≤ l) (h1 : l < xs.length) (hx : xs.length ≤ 1000) (e : ys = xs.set l.toNat (.int x)) (h : Q .none H') : OPL C A (fun Vs => call (.ref f) Vs) [.int x, .int l, .int (l + 1)] L m H Q := by
  refine X.call (names := nm_i2d_inner) (ps := ["x", "L", "R"]) hs K.G R ["x", "L", "R", "mid", "shift", "upper", "lower"] (fun clos doc pm cv ctv Vs hV => ?_) rfl ⟨rfl, rfl, rfl, rfl⟩ ?_ rfl fun env E => ?_
  · rcases Vs with _ | ⟨V, _ | ⟨W, _ | ⟨Y, _ | ⟨Z, r⟩⟩⟩⟩ <;> first | (simp at hV; done) | rfl
  · simp only [List.map_cons, List.map_nil]; decide +kernel
  simp only [List.zip_cons_cons, List.zip_nil_left, List.map_cons, List.map_nil]
  simp only [BNDA]
  refine STN.loc E (by wtm_at "a") (by wtm_at "a") (STN.loc E (by wtm_at "a") (by wtm_at "a") (STN.loc E (by wtm_at "a") (by wtm_at "a") ?_))
  conv => arg 3; whnf
  have hca' : (ca, AO.cell (.ref d)) ∈ (L, AO.ns m) :: H := List.Mem.tail _ hca
  have u' : Mine.Upd ((L, .ns m) :: H) d (.list xs) (.list ys) ((L, .ns m) :: H') := .tail u
  repeat wtm_at "n"
  rw [show ((l + 1 : Int) == l + 1) = true from beq_self_eq_true _, if_pos rfl]
  repeat wtm_at "n"
  refine ST.list' u' h0 h1 (by lia) e ?_
  refine EB.ret0 ?_
  exact ⟨_, by wtm_at "sub", h⟩
theorem K_i2d2 (K : KX C) {k : Nat} (R : Rm A (k + 2)) {f ca ci cn d : Addr} {qual : Str} (X : Inner C Hm f "inner" qual i2dI.1 i2dI.2.1 i2dI.2.2 [("a_digits", ca), ("inner", ci), ("n", cn)])
    {G₀ : HS} (hs : Sub Hm G₀) {x n : Int} {a0 a1 : AV} {xc : AO} (hn : 0 ≤ n ∧ n ≤ 1000) (hx : 0 ≤ x.fdiv (2 ^ n.toNat) ∧ x.fdiv (2 ^ n.toNat) < 2 ^ 20)
    (h : Q .none ((d, .list [.int (Builtin.bitXor x (x.fdiv (2 ^ n.toNat) * 2 ^ n.toNat)), .int (x.fdiv (2 ^ n.toNat))]) :: (ca, .cell (.ref d)) :: (ci, .cell (.ref f)) :: (cn, .cell (.int n)) :: G₀)) :
    OPL C A (fun Vs => call (.ref f) Vs) [.int x, .int 0, .int 2] L m ((d, .list [a0, a1]) :: (ca, .cell (.ref d)) :: (ci, .cell (.ref f)) :: (cn, .cell (.int n)) :: G₀) Q := by
  have hs' : ∀ p q r s t : Addr × AO, Sub Hm (p :: q :: r :: s :: t :: G₀) := fun _ _ _ _ _ => Sub.drop (Sub.drop (Sub.drop (Sub.drop (Sub.drop hs))))
  refine X.call (names := nm_i2d_inner) (ps := ["x", "L", "R"]) (Sub.drop (Sub.drop (Sub.drop (Sub.drop hs)))) K.G R ["x", "L", "R", "mid", "shift", "upper", "lower"] (fun clos doc pm cv ctv Vs hV => ?_) rfl ⟨rfl, rfl, rfl, rfl⟩ ?_ rfl fun env E => ?_
  · rcases Vs with _ | ⟨V, _ | ⟨W, _ | ⟨Y, _ | ⟨Z, r⟩⟩⟩⟩ <;> first | (simp at hV; done) | rfl
  · simp only [List.map_cons, List.map_nil]; decide +kernel
  simp only [List.zip_cons_cons, List.zip_nil_left, List.map_cons, List.map_nil]
  simp only [BNDA]
  refine STN.loc E (by wtm_at "a") (by wtm_at "a") (STN.loc E (by wtm_at "a") (by wtm_at "a") (STN.loc E (by wtm_at "a") (by wtm_at "a") ?_))
  conv => arg 3; whnf
  repeat wtm_at "n"
  rw [show ((0 + 1 : Int) == 2) = false from rfl, if_neg (by decide)]
  refine EB.nil ?_
  simp only [seqQ]
  repeat wtm_at "n"
  refine OP.shr (by decide) ?_
  repeat wtm_at "n"
  rw [show (0 + 2 : Int).fdiv (2 ^ (1 : Int).toNat) = 1 from rfl]
  refine OP.mul (by decide) ?_
  repeat wtm_at "n"
  rw [show ((1 : Int) - 0) * n = n by lia]
  refine OP.shr hn.1 ?_
  repeat wtm_at "n"
  refine OP.shl hn.1 (by lia) (by omega) ?_
  repeat wtm_at "n"
  refine X.callE ?_
  repeat wtm_at "n"
  refine ⟨rfl, ?_⟩
  repeat wtm_at "n"
  refine ⟨hs' _ _ _ _ _, ?_⟩
  refine K_i2d1 K (R.deeper env) X (hs' _ _ _ _ _) (ys := [.int (Builtin.bitXor x (x.fdiv (2 ^ n.toNat) * 2 ^ n.toNat)), a1]) (by wtm_at "m") (by wtm_at "a") (by decide) (by simp) (Nat.le_of_ble_eq_true rfl) rfl ?_
  wtm_at "n"
  refine X.callE ?_
  repeat wtm_at "n"
  refine ⟨rfl, ?_⟩
  repeat wtm_at "n"
  refine ⟨hs' _ _ _ _ _, ?_⟩
  refine K_i2d1 K (R.deeper env) X (hs' _ _ _ _ _) (ys := [.int (Builtin.bitXor x (x.fdiv (2 ^ n.toNat) * 2 ^ n.toNat)), .int (x.fdiv (2 ^ n.toNat))]) (by wtm_at "m") (by wtm_at "a") (by decide) (by simp) (Nat.le_of_ble_eq_true rfl) rfl ?_
  refine EB.nil ?_
  exact ⟨_, by wtm_at "sub", h⟩
/- the digits of a number that has at most two -/
noncomputable def digS (a n : Int) : Int := (((Builtin.Int.intBits a : Nat) : Int) + n - 1).fdiv n
noncomputable def i2dS (a n : Int) : List Int := if digS a n = 0 then [] else if digS a n = 1 then [a] else [Builtin.bitXor a (a.fdiv (2 ^ n.toNat) * 2 ^ n.toNat), a.fdiv (2 ^ n.toNat)]
noncomputable def posI : Pos := ⟨36, 4, 45, 28⟩
noncomputable def posD : Pos := ⟨51, 4, 56, 55⟩
noncomputable abbrev TabI (T : HS) : Prop := TabP 54 "_int2digits.<locals>.inner" ⟨36, 4, 45, 28⟩ T
noncomputable abbrev TabD (T : HS) : Prop := TabP 61 "_digits2int.<locals>.inner" ⟨51, 4, 56, 55⟩ T

theorem K_i2d (K : KX C) {k : Nat} (R : Rm A (k + 3)) {T H₀ : HS} (hT : TabI T) (hs : Sub (T ++ H₀) H) {a n : Int} (hn : 0 < n ∧ n ≤ 1000) (hd : (digS a n = 0 ∧ a = 0) ∨ (digS a n = 1 ∧ a ≠ 0) ∨ (digS a n = 2 ∧ a ≠ 0))
    (hx : 0 ≤ a.fdiv (2 ^ n.toNat) ∧ a.fdiv (2 ^ n.toNat) < 2 ^ 20)
    (h : ∀ b T', TabI T' → Q (.ref b) ((b, .list ((i2dS a n).map .int)) :: (T' ++ H₀))) : OPL C A (fun Vs => call (.ref 59) Vs) [.int a, .int n] L m H Q := by
  refine OPL.sub hs ?_
  refine FnKX.call K.f_int2digits K.G R ["a"] rfl (by decide +kernel) fun env cs hc E hcode hqual => ?_
  obtain ⟨cn, ca, ci, rfl⟩ : ∃ cn ca ci, cs = [cn, ca, ci] := by
    rcases cs with _ | ⟨x, _ | ⟨y, _ | ⟨z, _ | ⟨w, r⟩⟩⟩⟩ <;> first | exact ⟨_, _, _, rfl⟩ | (exact absurd hc (by simp [cellNames]))
  replace E : EnvOk env nm_int2digits [("n", cn), ("a_digits", ca), ("inner", ci)] := E
  show BNDA C A.in1 env [("a", .int a), ("n", .int n)] [("a", .undef)] ((cn, .cell .undef) :: (ca, .cell .undef) :: (ci, .cell .undef) :: (L, .ns m) :: (T ++ H₀)) _
  simp only [BNDA]
  refine STN.loc E (by wtm_at "a") (by wtm_at "a") (STN.cell' E (by wtm_at "a") (by wtm_at "a") (by wtm_at "a") ?_)
  conv => arg 3; whnf
  have hh : (A.deeper env).handled = none := R.handled
  repeat wtm_at "n"
  refine ⟨by decide, fun d0 => ?_⟩
  repeat wtm_at "n"
  refine EV.bitLength ?_
  repeat wtm_at "n"
  refine ⟨_, rfl, ?_⟩
  repeat wtm_at "n"
  refine OP.fdiv (by lia) (by omega) ?_
  rw [show (((Builtin.Int.intBits a : Nat) : Int) + n - 1).fdiv n = digS a n from rfl]
  refine OP.mull (by wtm_at "m") (by lia) (by lia) fun d => ?_
  repeat wtm_at "n"
  refine EB.def' (T := T) (u := .undef) (H₀ := (d, .list (List.replicate (digS a n).toNat (.int 0))) :: (ca, .cell (.ref d)) :: (cn, .cell (.int n)) :: (L, .ns m) :: H₀) (cls := [("a_digits", ca), ("inner", ci), ("n", cn)]) (snames := nm_i2d_inner) (locs := []) K.G K.f_int2digits.bat E (by wtm_at "a") (by wtm_at "a") hcode K.f_int2digits.hd
    (by rw [hqual]; rfl) (compSt1 rfl rfl rfl (by decide +kernel) (by simp only [List.map_cons, List.map_nil]; decide +kernel) ?_) hT ?_ fun f ft T' hT' X => ?_
  · intro q hq
    simp only [List.mem_cons, List.mem_nil_iff, or_false] at hq
    rcases hq with rfl | rfl | rfl
    · exact ⟨by wtm_at "a", by wtm_at "a", by show (Str.ofString "a_digits", NameKind.free) ∈ _; wtm_at "m"⟩
    · exact ⟨by wtm_at "a", by wtm_at "a", by show (Str.ofString "inner", NameKind.free) ∈ _; wtm_at "m"⟩
    · exact ⟨by wtm_at "a", by wtm_at "a", by show (Str.ofString "n", NameKind.free) ∈ _; wtm_at "m"⟩
  · refine Sub.trans (Sub.rot (X := T) (T := [(ci, .cell .undef), (d, .list (List.replicate (digS a n).toNat (.int 0))), (ca, .cell (.ref d)), (cn, .cell (.int n)), (L, .ns m)]) (Y := H₀)) ?_
    simp only [List.cons_append, List.nil_append]
    wtm_at "sub"
  · refine EB.sub (H' := ft :: (d, .list (List.replicate (digS a n).toNat (.int 0))) :: (ca, .cell (.ref d)) :: (ci, .cell (.ref f)) :: (cn, .cell (.int n)) :: (L, .ns m) :: (T' ++ H₀)) ?_ ?_
    · refine Sub.trans (Sub.trans ?_ (Sub.rot (X := [ft, (ci, .cell (.ref f)), (d, .list (List.replicate (digS a n).toNat (.int 0))), (ca, .cell (.ref d)), (cn, .cell (.int n)), (L, .ns m)]) (T := T') (Y := H₀))) Sub.refl
      simp only [List.cons_append, List.nil_append]
      wtm_at "sub"
    have X' := X.front
    repeat wtm_at "n"
    refine TRU.int ?_
    rcases hd with ⟨hk, rfl⟩ | ⟨hk, ha⟩ | ⟨hk, ha⟩
    · rw [show ((0 : Int) != 0) = false from rfl, if_neg (by decide), hk, show List.replicate (0 : Int).toNat (AV.int 0) = [] from rfl]
      refine EB.nil ?_
      simp only [seqQ]
      repeat wtm_at "n"
      have := h d T' hT'
      rw [i2dS, if_pos hk] at this
      simp only [List.map_cons, List.map_nil] at this
      exact ⟨(d, .list _) :: (T' ++ H₀), by wtm_at "sub", this⟩
    · rw [show (a != 0) = true from bne_iff_ne.mpr ha, if_pos rfl, hk, show List.replicate (1 : Int).toNat (AV.int 0) = [.int 0] from rfl]
      repeat wtm_at "n"
      refine X'.callE ?_
      repeat wtm_at "n"
      refine ⟨rfl, ?_⟩
      repeat wtm_at "n"
      refine CB.lenList (by wtm_at "m") (by decide) ?_
      repeat wtm_at "n"
      refine ⟨by wtm_at "sub", ?_⟩
      refine K_i2d1 K (R.deeper env) X' (by wtm_at "sub") (by wtm_at "m") (ys := [.int a]) (by wtm_at "a") (by decide) (by decide) (by decide) rfl ?_
      refine EB.nil ?_
      simp only [seqQ]
      repeat wtm_at "n"
      have := h d T' hT'
      rw [i2dS, if_neg (by lia), if_pos hk] at this
      simp only [List.map_cons, List.map_nil] at this
      exact ⟨(d, .list _) :: (T' ++ H₀), by wtm_at "sub", this⟩
    · rw [show (a != 0) = true from bne_iff_ne.mpr ha, if_pos rfl, hk, show List.replicate (2 : Int).toNat (AV.int 0) = [.int 0, .int 0] from rfl]
      repeat wtm_at "n"
      refine X'.callE ?_
      repeat wtm_at "n"
      refine ⟨rfl, ?_⟩
      repeat wtm_at "n"
      refine CB.lenList (by wtm_at "m") (by decide) ?_
      repeat wtm_at "n"
      refine ⟨by wtm_at "sub", ?_⟩
      refine OPL.sub (H' := (d, .list [.int 0, .int 0]) :: (ca, .cell (.ref d)) :: (ci, .cell (.ref f)) :: (cn, .cell (.int n)) :: ft :: (L, .ns m) :: (T' ++ H₀)) (by wtm_at "sub") ?_
      refine K_i2d2 K (R.deeper env) X' (G₀ := ft :: (L, .ns m) :: (T' ++ H₀)) (by wtm_at "sub") (xc := .cell .none) (by lia) hx ?_
      refine EB.nil ?_
      simp only [seqQ]
      repeat wtm_at "n"
      have := h d T' hT'
      rw [i2dS, if_neg (by lia), if_neg (by lia)] at this
      simp only [List.map_cons, List.map_nil] at this
      exact ⟨(d, .list _) :: (T' ++ H₀), by wtm_at "sub", this⟩
end

/- _digits2int -/
noncomputable def d2iS (ds : List Int) (n : Int) : Int := match ds with
  | [] => 0
  | [x] => x
  | x :: y :: _ => y * 2 ^ n.toNat + x
section
variable {C : Cx} {A : Around} {L : Addr} {m : Loc} {H H' Hm : HS} {Q : AV → HS → Prop}
theorem K_d2i1 (K : KX C) {k : Nat} (R : Rm A (k + 1)) {f cd ci cn d : Addr} {qual : Str} (X : Inner C Hm f "inner" qual d2iI.1 d2iI.2.1 d2iI.2.2 [("digits", cd), ("inner", ci), ("n", cn)]) (hs : Sub Hm H) (hcd : (cd, AO.cell (.ref d)) ∈ H)
    {l : Int} {xs : List AV} {x : AV} (hd : (d, AO.list xs) ∈ H) (h0 : 0 ≤ l) (h1 : l < xs.length) (hx : xs.length ≤ 1000) (e : xs[l.toNat]? = some x) (h : Q x H) : OPL C A (fun Vs => call (.ref f) Vs) [.int l, .int (l + 1)] L m H Q := by
  refine X.call (names := nm_d2i_inner) (ps := ["L", "R"]) hs K.G R ["L", "R", "mid", "shift"] (fun clos doc pm cv ctv Vs hV => ?_) rfl ⟨rfl, rfl, rfl, rfl⟩ ?_ rfl fun env E => ?_
  · rcases Vs with _ | ⟨V, _ | ⟨W, _ | ⟨Z, r⟩⟩⟩ <;> first | (simp at hV; done) | rfl
  · simp only [List.map_cons, List.map_nil]; decide +kernel
  simp only [List.zip_cons_cons, List.zip_nil_left, List.map_cons, List.map_nil]
  simp only [BNDA]
  refine STN.loc E (by wtm_at "a") (by wtm_at "a") (STN.loc E (by wtm_at "a") (by wtm_at "a") ?_)
  conv => arg 3; whnf
  have hcd' : (cd, AO.cell (.ref d)) ∈ (L, AO.ns m) :: H := List.Mem.tail _ hcd
  have hd' : (d, AO.list xs) ∈ (L, AO.ns m) :: H := List.Mem.tail _ hd
  repeat wtm_at "n"
  rw [show ((l + 1 : Int) == l + 1) = true from beq_self_eq_true _, if_pos rfl]
  repeat wtm_at "n"
  refine SUB.list hd' (j := l.toNat) (x := x) ?_ e ?_
  · simp [seqIndex?]; lia
  exact ⟨H, by wtm_at "sub", h⟩
theorem K_d2i2 (K : KX C) {k : Nat} (R : Rm A (k + 2)) {f cd ci cn d : Addr} {qual : Str} (X : Inner C Hm f "inner" qual d2iI.1 d2iI.2.1 d2iI.2.2 [("digits", cd), ("inner", ci), ("n", cn)]) (hs : Sub Hm H) (hcd : (cd, AO.cell (.ref d)) ∈ H) (hci : (ci, AO.cell (.ref f)) ∈ H) {n : Int} (hcn : (cn, AO.cell (.int n)) ∈ H)
    (hn : 0 ≤ n ∧ n ≤ 1000) {x y : Int} (hd : (d, AO.list [.int x, .int y]) ∈ H) (hy : y.natAbs < 2 ^ 20) (h : Q (.int (y * 2 ^ n.toNat + x)) H) : OPL C A (fun Vs => call (.ref f) Vs) [.int 0, .int 2] L m H Q := by
  refine X.call (names := nm_d2i_inner) (ps := ["L", "R"]) hs K.G R ["L", "R", "mid", "shift"] (fun clos doc pm cv ctv Vs hV => ?_) rfl ⟨rfl, rfl, rfl, rfl⟩ ?_ rfl fun env E => ?_
  · rcases Vs with _ | ⟨V, _ | ⟨W, _ | ⟨Z, r⟩⟩⟩ <;> first | (simp at hV; done) | rfl
  · simp only [List.map_cons, List.map_nil]; decide +kernel
  simp only [List.zip_cons_cons, List.zip_nil_left, List.map_cons, List.map_nil]
  simp only [BNDA]
  refine STN.loc E (by wtm_at "a") (by wtm_at "a") (STN.loc E (by wtm_at "a") (by wtm_at "a") ?_)
  conv => arg 3; whnf
  have hcd' : (cd, AO.cell (.ref d)) ∈ (L, AO.ns m) :: H := List.Mem.tail _ hcd
  have hci' : (ci, AO.cell (.ref f)) ∈ (L, AO.ns m) :: H := List.Mem.tail _ hci
  have hcn' : (cn, AO.cell (.int n)) ∈ (L, AO.ns m) :: H := List.Mem.tail _ hcn
  have hd' : (d, AO.list [.int x, .int y]) ∈ (L, AO.ns m) :: H := List.Mem.tail _ hd
  repeat wtm_at "n"
  rw [show ((0 + 1 : Int) == 2) = false from rfl, if_neg (by decide)]
  refine EB.nil ?_
  simp only [seqQ]
  repeat wtm_at "n"
  refine OP.shr (by decide) ?_
  repeat wtm_at "n"
  rw [show (0 + 2 : Int).fdiv (2 ^ (1 : Int).toNat) = 1 from rfl]
  refine OP.mul (by decide) ?_
  repeat wtm_at "n"
  rw [show ((1 : Int) - 0) * n = n by lia]
  repeat wtm_at "n"
  refine X.callE ?_
  repeat wtm_at "n"
  refine ⟨rfl, ?_⟩
  repeat wtm_at "n"
  refine ⟨Sub.drop hs, ?_⟩
  refine K_d2i1 K (R.deeper env) X (Sub.drop hs) hcd' hd' (by decide) (by simp) (by simp) rfl ?_
  repeat wtm_at "n"
  refine OP.shl hn.1 (by lia) (by lia) ?_
  refine X.callE ?_
  repeat wtm_at "n"
  refine ⟨rfl, ?_⟩
  repeat wtm_at "n"
  refine ⟨Sub.drop hs, ?_⟩
  refine K_d2i1 K (R.deeper env) X (Sub.drop hs) hcd' hd' (by decide) (by simp) (by simp) rfl ?_
  repeat wtm_at "n"
  exact ⟨H, by wtm_at "sub", h⟩
theorem K_d2i (K : KX C) {k : Nat} (R : Rm A (k + 3)) {T H₀ : HS} (hT : TabD T) {b : Addr} {ds : List Int} {n : Int} (hs : Sub (T ++ (b, .list (ds.map .int)) :: H₀) H) (hn : 0 ≤ n ∧ n ≤ 1000) (hl : ds.length ≤ 2) (hx : ∀ x ∈ ds, x.natAbs < 2 ^ 20)
    (h : ∀ T', TabD T' → Q (.int (d2iS ds n)) (T' ++ (b, .list (ds.map .int)) :: H₀)) : OPL C A (fun Vs => call (.ref 66) Vs) [.ref b, .int n] L m H Q := by
  refine OPL.sub hs ?_
  refine FnKX.call K.f_digits2int K.G R [] rfl (by decide +kernel) fun env cs hc E hcode hqual => ?_
  obtain ⟨cd, cn, ci, rfl⟩ : ∃ cd cn ci, cs = [cd, cn, ci] := by
    rcases cs with _ | ⟨x, _ | ⟨y, _ | ⟨z, _ | ⟨w, r⟩⟩⟩⟩ <;> first | exact ⟨_, _, _, rfl⟩ | (exact absurd hc (by simp [cellNames]))
  replace E : EnvOk env nm_digits2int [("digits", cd), ("n", cn), ("inner", ci)] := E
  show BNDA C A.in1 env [("digits", .ref b), ("n", .int n)] [] ((cd, .cell .undef) :: (cn, .cell .undef) :: (ci, .cell .undef) :: (L, .ns m) :: (T ++ (b, .list (ds.map .int)) :: H₀)) _
  simp only [BNDA]
  refine STN.cell' E (by wtm_at "a") (by wtm_at "a") (by wtm_at "a") (STN.cell' E (by wtm_at "a") (by wtm_at "a") (by wtm_at "a") ?_)
  conv => arg 3; whnf
  have hh : (A.deeper env).handled = none := R.handled
  refine EB.def' (T := T) (u := .undef) (H₀ := (b, .list (ds.map .int)) :: (cd, .cell (.ref b)) :: (cn, .cell (.int n)) :: (L, .ns m) :: H₀) (cls := [("digits", cd), ("inner", ci), ("n", cn)]) (snames := nm_d2i_inner) (locs := []) K.G K.f_digits2int.bat E (by wtm_at "a") (by wtm_at "a") hcode K.f_digits2int.hd
    (by rw [hqual]; rfl) (compSt1 rfl rfl rfl (by decide +kernel) (by simp only [List.map_cons, List.map_nil]; decide +kernel) ?_) hT ?_ fun f ft T' hT' X => ?_
  · intro q hq
    simp only [List.mem_cons, List.mem_nil_iff, or_false] at hq
    rcases hq with rfl | rfl | rfl
    · exact ⟨by wtm_at "a", by wtm_at "a", by show (Str.ofString "digits", NameKind.free) ∈ _; wtm_at "m"⟩
    · exact ⟨by wtm_at "a", by wtm_at "a", by show (Str.ofString "inner", NameKind.free) ∈ _; wtm_at "m"⟩
    · exact ⟨by wtm_at "a", by wtm_at "a", by show (Str.ofString "n", NameKind.free) ∈ _; wtm_at "m"⟩
  · refine Sub.trans (Sub.rot (X := T) (T := [(ci, .cell .undef), (b, .list (ds.map .int)), (cd, .cell (.ref b)), (cn, .cell (.int n)), (L, .ns m)]) (Y := H₀)) ?_
    simp only [List.cons_append, List.nil_append]
    refine Sub.trans ?_ (Sub.under' (X := [(cd, .cell (.ref b)), (cn, .cell (.int n)), (ci, .cell .undef), (L, .ns m)]) (Sub.rot (X := [(b, .list (ds.map .int))]) (T := T) (Y := H₀)))
    simp only [List.cons_append, List.nil_append]
    wtm_at "sub"
  · refine EB.sub (H' := ft :: (b, .list (ds.map .int)) :: (cd, .cell (.ref b)) :: (ci, .cell (.ref f)) :: (cn, .cell (.int n)) :: (L, .ns m) :: (T' ++ H₀)) ?_ ?_
    · refine Sub.trans (Sub.trans ?_ (Sub.rot (X := [ft, (ci, .cell (.ref f)), (b, .list (ds.map .int)), (cd, .cell (.ref b)), (cn, .cell (.int n)), (L, .ns m)]) (T := T') (Y := H₀))) Sub.refl
      simp only [List.cons_append, List.nil_append]
      wtm_at "sub"
    have X' := X.front
    have fin : ∀ {v : AV}, Q v (T' ++ (b, .list (ds.map .int)) :: H₀) → RET L m Q (.ret v) [] (ft :: (b, .list (ds.map .int)) :: (cd, .cell (.ref b)) :: (ci, .cell (.ref f)) :: (cn, .cell (.int n)) :: (L, .ns m) :: (T' ++ H₀)) := fun q => by
      refine ⟨_, ?_, q⟩
      refine Sub.trans (Sub.cons (Sub.rot (X := T') (T := [(b, .list (ds.map .int))]) (Y := H₀))) ?_
      simp only [List.cons_append, List.nil_append]
      wtm_at "sub"
    have q := h T' hT'
    rcases ds with _ | ⟨x, _ | ⟨y, _ | ⟨z, r⟩⟩⟩
    · repeat wtm_at "n"
      refine TRU.list (by wtm_at "m") (by simp) ?_
      rw [if_neg (by simp)]
      repeat wtm_at "n"
      exact fin q
    · repeat wtm_at "n"
      refine TRU.list (by wtm_at "m") (by simp) ?_
      rw [if_pos (by simp)]
      refine X'.callE ?_
      repeat wtm_at "n"
      refine ⟨rfl, ?_⟩
      repeat wtm_at "n"
      refine CB.lenList (by wtm_at "m") (by simp) ?_
      repeat wtm_at "n"
      refine ⟨by wtm_at "sub", ?_⟩
      refine K_d2i1 (x := .int x) K (R.deeper env) X' (by wtm_at "sub") (by wtm_at "m") (by wtm_at "m") (by decide) (by simp) (by simp) rfl ?_
      exact fin q
    · repeat wtm_at "n"
      refine TRU.list (by wtm_at "m") (by simp) ?_
      rw [if_pos (by simp)]
      refine X'.callE ?_
      repeat wtm_at "n"
      refine ⟨rfl, ?_⟩
      repeat wtm_at "n"
      refine CB.lenList (by wtm_at "m") (by simp) ?_
      repeat wtm_at "n"
      refine ⟨by wtm_at "sub", ?_⟩
      refine K_d2i2 (x := x) (y := y) K (R.deeper env) X' (by wtm_at "sub") (by wtm_at "m") (by wtm_at "m") (by wtm_at "m") hn (by simp only [List.map_cons, List.map_nil]; wtm_at "m") (hx y (by simp)) ?_
      exact fin q
    · simp at hl
end

/- _div2n1n, _divmod_pos, int_divmod -/
noncomputable def dpAt (ds : List Int) (b n : Int) : Nat → Int × List Int
  | 0 => (0, [])
  | i + 1 =>
    let s := dpAt ds b n i
    let v := s.1 * 2 ^ n.toNat + ds.reverse.getD i 0
    (v.fmod b, s.2 ++ [v.fdiv b])
noncomputable def dpN (b : Int) : Int := ((Builtin.Int.intBits b : Nat) : Int)
noncomputable def dpD (a b : Int) : List Int := i2dS a (dpN b)
noncomputable def dpS (a b : Int) : Int × Int := let s := dpAt (dpD a b) b (dpN b) (dpD a b).length; (d2iS s.2.reverse (dpN b), s.1)
noncomputable abbrev dpOk (a b : Int) : Prop := b ≠ 0 ∧ b.natAbs < 1000 ∧ (0 < dpN b ∧ dpN b ≤ 1000) ∧ ((digS a (dpN b) = 0 ∧ a = 0) ∨ (digS a (dpN b) = 1 ∧ a ≠ 0) ∨ (digS a (dpN b) = 2 ∧ a ≠ 0)) ∧
  (0 ≤ a.fdiv (2 ^ (dpN b).toNat) ∧ a.fdiv (2 ^ (dpN b).toNat) < 2 ^ 20) ∧
  (∀ i < (dpD a b).length, (dpAt (dpD a b) b (dpN b) i).1.natAbs < 2 ^ 20 ∧ ((dpAt (dpD a b) b (dpN b) i).1 * 2 ^ (dpN b).toNat + (dpD a b).reverse.getD i 0).natAbs < 2 ^ 20) ∧
  (∀ x ∈ (dpAt (dpD a b) b (dpN b) (dpD a b).length).2, x.natAbs < 2 ^ 20)
theorem dpAt_len (ds : List Int) (b n : Int) : ∀ i, (dpAt ds b n i).2.length = i
  | 0 => rfl
  | i + 1 => by rw [dpAt]; simp only [List.length_append, dpAt_len ds b n i]; rfl
theorem i2dS_len (a n : Int) : (i2dS a n).length ≤ 2 := by
  unfold i2dS
  split
  · simp
  · split <;> simp

section
variable {C : Cx} {A : Around} {L : Addr} {m : Loc} {H H' : HS} {Q : AV → HS → Prop}
theorem K_d2n (K : KX C) {k : Nat} (R : Rm A (k + 1)) {a b n : Int} (ha : a.natAbs < 2 ^ 20) (hn : 0 ≤ n) (hb : b ≠ 0) (hb2 : b.natAbs < 1000) (h : ∀ t, Q (.ref t) ((t, .tup [.int (a.fdiv b), .int (a.fmod b)]) :: H)) :
    OPL C A (fun Vs => call (.ref 45) Vs) [.int a, .int b, .int n] L m H Q := by
  refine FnK.call K.f_div2n1n K.G R ["a", "b", "n", "pad", "half_n", "mask", "b1", "b2", "q1", "r", "q2"] rfl (by decide +kernel) fun env cs hc E => ?_
  replace hc : cs = [] := List.eq_nil_of_length_eq_zero hc
  subst hc
  simp only [List.zip_cons_cons, List.zip_nil_left, List.map_cons, List.map_nil, newCells, List.nil_append]
  simp only [BNDA]
  refine STN.loc E (by wtm_at "a") (by wtm_at "a") (STN.loc E (by wtm_at "a") (by wtm_at "a") (STN.loc E (by wtm_at "a") (by wtm_at "a") ?_))
  conv => arg 3; whnf
  have hh : (A.deeper env).handled = none := R.handled
  have hbits : Builtin.Int.intBits a ≤ 64 := intBits_le_of (by lia) (by lia)
  repeat wtm_at "n"
  refine EV.bitLength ?_
  repeat wtm_at "n"
  refine ⟨_, rfl, ?_⟩
  repeat wtm_at "n"
  rw [decide_eq_true (show ((Builtin.Int.intBits a : Nat) : Int) - n ≤ 4000 by lia), if_pos rfl]
  repeat wtm_at "n"
  refine CB.divmod hb (by lia) fun t => ?_
  exact ⟨(t, .tup [.int (a.fdiv b), .int (a.fmod b)]) :: H, by wtm_at "sub", h t⟩
theorem K_dmp (K : KX C) {k : Nat} (R : Rm A (k + 4)) {T U H₀ : HS} (hT : TabI T) (hU : TabD U) {a b : Int} (hs : Sub (T ++ (U ++ H₀)) H) (ok : dpOk a b)
    (h : ∀ t T' U', TabI T' → TabD U' → Q (.ref t) ((t, .tup [.int (dpS a b).1, .int (dpS a b).2]) :: (T' ++ (U' ++ H₀)))) : OPL C A (fun Vs => call (.ref 73) Vs) [.int a, .int b] L m H Q := by
  obtain ⟨hb, hb2, hn, hd, hx, hst, hq⟩ := ok
  unfold dpS at h
  refine OPL.sub hs ?_
  refine FnK.call K.f_divmod_pos K.G R ["a", "b", "n", "a_digits", "r", "q_digits", "a_digit", "q_digit", "q"] rfl (by decide +kernel) fun env cs hc E => ?_
  replace hc : cs = [] := List.eq_nil_of_length_eq_zero hc
  subst hc
  simp only [List.zip_cons_cons, List.zip_nil_left, List.map_cons, List.map_nil, newCells, List.nil_append]
  simp only [BNDA]
  refine STN.loc E (by wtm_at "a") (by wtm_at "a") (STN.loc E (by wtm_at "a") (by wtm_at "a") ?_)
  conv => arg 3; whnf
  have hh : (A.deeper env).handled = none := R.handled
  repeat wtm_at "n"
  refine EV.bitLength ?_
  repeat wtm_at "n"
  refine ⟨_, rfl, ?_⟩
  rw [show ((Builtin.Int.intBits b : Nat) : Int) = dpN b from rfl]
  repeat wtm_at "n"
  refine EV.callKX K.f_int2digits ?_
  repeat wtm_at "n"
  refine ⟨rfl, ?_⟩
  repeat wtm_at "n"
  refine K_i2d K (R.deeper env) (T := T) (H₀ := (L, .ns m) :: (U ++ H₀)) hT (Sub.rot (X := T) (T := [(L, .ns m)]) (Y := U ++ H₀)) hn hd hx fun ad T' hT' => ?_
  rw [show i2dS a (dpN b) = dpD a b from rfl]
  wtm_at "n"
  refine EB.sub (H' := (ad, .list ((dpD a b).map .int)) :: (L, .ns m) :: (T' ++ (U ++ H₀))) (Sub.cons (Sub.rot (X := [(L, .ns m)]) (T := T') (Y := U ++ H₀))) ?_
  have hdl : (dpD a b).length ≤ 2 := i2dS_len _ _
  repeat wtm_at "n"
  refine ⟨by decide, fun qd => ?_⟩
  wtm_at "n"
  refine EB.forI ?_
  repeat wtm_at "n"
  refine CB.reversed (by wtm_at "m") fun I => ?_
  refine ⟨I, _, _, _, _, fun i m' H' => ∃ u v, m' = ([("a", .int a), ("b", .int b), ("n", .int (dpN b)), ("a_digits", .ref ad), ("r", .int (dpAt (dpD a b) b (dpN b) i).1), ("q_digits", .ref qd), ("a_digit", u), ("q_digit", v), ("q", .undef)] : Loc) ∧
      H' = (qd, .list ((dpAt (dpD a b) b (dpN b) i).2.map .int)) :: (ad, .list ((dpD a b).map .int)) :: (L, .ns m) :: (T' ++ (U ++ H₀)), rfl, rfl, Iter.rev (l := ad) (xs := (dpD a b).map .int) hh, ⟨_, _, rfl, rfl⟩, ?_, fun i x m' H' hx' hj => ?_, fun m' H' hj => ?_⟩
  · rintro i m' H' ⟨u, v, rfl, rfl⟩; wtm_at "m"
  · obtain ⟨u, v, rfl, rfl⟩ := hj
    have hi : i < (dpD a b).length := by have := (List.getElem?_eq_some_iff.mp hx').1; simpa using this
    have ex : x = .int ((dpD a b).reverse.getD i 0) := by
      rw [← List.map_reverse, List.getElem?_map] at hx'
      rw [List.getD_eq_getElem?_getD]
      rw [List.getElem?_eq_getElem (by simpa using hi)] at hx' ⊢
      exact (Option.some.inj hx').symm
    subst ex
    obtain ⟨b1, b2⟩ := hst i hi
    have hql := dpAt_len (dpD a b) b (dpN b) i
    have es : dpAt (dpD a b) b (dpN b) (i + 1) = (((dpAt (dpD a b) b (dpN b) i).1 * 2 ^ (dpN b).toNat + (dpD a b).reverse.getD i 0).fmod b, (dpAt (dpD a b) b (dpN b) i).2 ++ [((dpAt (dpD a b) b (dpN b) i).1 * 2 ^ (dpN b).toNat + (dpD a b).reverse.getD i 0).fdiv b]) := rfl
    generalize (dpD a b).reverse.getD i 0 = dg at *
    generalize dpAt (dpD a b) b (dpN b) i = s at *
    obtain ⟨r, qs⟩ := s
    simp only at b1 b2 hql es ⊢
    wtm_at "n"
    refine EB.assignTup ?_
    refine EV.callK K.f_div2n1n ?_
    repeat wtm_at "n"
    refine ⟨rfl, ?_⟩
    repeat wtm_at "n"
    refine OP.shl (by lia) (by lia) (by lia) ?_
    repeat wtm_at "n"
    refine K_d2n K (k := k + 2) (R.deeper env) b2 (by lia) hb hb2 fun t => ?_
    refine ASG.pair hh (by wtm_at "m") ?_
    repeat wtm_at "n"
    refine EV.append ?_
    repeat wtm_at "n"
    refine ⟨_, _, rfl, by wtm_at "m", ?_⟩
    repeat wtm_at "n"
    refine ⟨_, _, by wtm_at "a", by simp; lia, ?_⟩
    refine EB.sub (H' := (qd, .list (qs.map AV.int ++ [.int ((r * 2 ^ (dpN b).toNat + dg).fdiv b)])) :: (ad, .list ((dpD a b).map .int)) :: (L, .ns m) :: (T' ++ (U ++ H₀))) (by wtm_at "sub") ?_
    refine EB.nil ⟨.int dg, .int ((r * 2 ^ (dpN b).toNat + dg).fdiv b), ?_, ?_⟩
    · rw [es]
    · rw [es, List.map_append]; rfl
  · obtain ⟨u, v, rfl, rfl⟩ := hj
    rw [List.length_reverse, List.length_map]
    have hql := dpAt_len (dpD a b) b (dpN b) (dpD a b).length
    generalize hsd : dpAt (dpD a b) b (dpN b) (dpD a b).length = s at *
    obtain ⟨r, qs⟩ := s
    simp only at hq hql h ⊢
    repeat wtm_at "n"
    refine EV.reverse ?_
    repeat wtm_at "n"
    refine ⟨_, _, _, rfl, by wtm_at "a", by simp; lia, ?_⟩
    rw [← List.map_reverse]
    repeat wtm_at "n"
    refine EV.callKX K.f_digits2int ?_
    repeat wtm_at "n"
    refine ⟨rfl, ?_⟩
    repeat wtm_at "n"
    refine K_d2i K (R.deeper env) (T := U) (b := qd) (ds := qs.reverse) (H₀ := (ad, .list ((dpD a b).map .int)) :: (L, .ns m) :: (T' ++ H₀)) hU ?_ (by lia) (by simp; lia) (by simpa using hq) fun U' hU' => ?_
    · refine Sub.trans (Sub.rot (X := U) (T := [(qd, .list (qs.reverse.map .int)), (ad, .list ((dpD a b).map .int)), (L, .ns m)]) (Y := T' ++ H₀)) ?_
      exact Sub.under' (X := [(qd, .list (qs.reverse.map .int)), (ad, .list ((dpD a b).map .int)), (L, .ns m)]) (Sub.rot (X := U) (T := T') (Y := H₀))
    wtm_at "n"
    refine EB.sub (H' := (L, .ns m) :: (T' ++ (U' ++ H₀))) ?_ ?_
    · refine Sub.trans ?_ (Sub.rot (X := [(qd, .list (qs.reverse.map .int)), (ad, .list ((dpD a b).map .int)), (L, .ns m)]) (T := U') (Y := T' ++ H₀))
      refine Sub.drop (Sub.drop (Sub.cons (Sub.rot (X := T') (T := U') (Y := H₀))))
    repeat wtm_at "n"
    refine ⟨Nat.le_of_ble_eq_true rfl, fun t => ?_⟩
    exact ⟨(t, .tup [.int (d2iS qs.reverse (dpN b)), .int r]) :: (T' ++ (U' ++ H₀)), by wtm_at "sub", h t T' U' hT' hU'⟩
end

/- int_divmod -/
noncomputable def idS (a b : Int) : Int × Int := if a < 0 then (Builtin.bitNot (dpS (Builtin.bitNot a) b).1, b + Builtin.bitNot (dpS (Builtin.bitNot a) b).2) else dpS a b
noncomputable abbrev idOk (a b : Int) : Prop := 0 < b ∧ (if a < 0 then 0 ≤ Builtin.bitNot a ∧ dpOk (Builtin.bitNot a) b else dpOk a b)
section
variable {C : Cx} {A : Around} {L : Addr} {m : Loc} {H H' : HS} {Q : AV → HS → Prop}
theorem K_idp (K : KX C) {k : Nat} (R : Rm A (k + 5)) {T U H₀ : HS} (hT : TabI T) (hU : TabD U) {a b : Int} (hs : Sub (T ++ (U ++ H₀)) H) (hb : 0 < b) (ha : 0 ≤ a) (ok : dpOk a b)
    (h : ∀ t T' U', TabI T' → TabD U' → Q (.ref t) ((t, .tup [.int (dpS a b).1, .int (dpS a b).2]) :: (T' ++ (U' ++ H₀)))) : OPL C A (fun Vs => call (.ref 80) Vs) [.int a, .int b] L m H Q := by
  refine OPL.sub hs ?_
  refine FnK.call K.f_int_divmod K.G R ["a", "b", "q", "r"] rfl (by decide +kernel) fun env cs hc E => ?_
  replace hc : cs = [] := List.eq_nil_of_length_eq_zero hc
  subst hc
  simp only [List.zip_cons_cons, List.zip_nil_left, List.map_cons, List.map_nil, newCells, List.nil_append]
  simp only [BNDA]
  refine STN.loc E (by wtm_at "a") (by wtm_at "a") (STN.loc E (by wtm_at "a") (by wtm_at "a") ?_)
  conv => arg 3; whnf
  repeat wtm_at "n"
  rw [show (b == 0) = false from beq_eq_false_iff_ne.mpr (by lia), if_neg (by decide)]
  repeat wtm_at "n"
  rw [decide_eq_false (show ¬ b < 0 by lia), if_neg (by decide)]
  repeat wtm_at "n"
  rw [decide_eq_false (show ¬ a < 0 by lia), if_neg (by decide)]
  repeat wtm_at "n"
  refine EV.callK K.f_divmod_pos ?_
  repeat wtm_at "n"
  refine ⟨rfl, ?_⟩
  repeat wtm_at "n"
  refine K_dmp K (R.deeper env) (T := T) (U := U) (H₀ := (L, .ns m) :: H₀) hT hU ?_ ok fun t T' U' hT' hU' => ?_
  · refine Sub.trans (Sub.under' (X := T) (Sub.rot (X := U) (T := [(L, .ns m)]) (Y := H₀))) ?_
    exact Sub.rot (X := T) (T := [(L, .ns m)]) (Y := U ++ H₀)
  simp only [seqQ]
  refine ⟨_, ?_, h t T' U' hT' hU'⟩
  have e1 : Sub ((L, .ns m) :: (T' ++ (U' ++ H₀))) (T' ++ (U' ++ (L, .ns m) :: H₀)) :=
    Sub.trans (Sub.rot (X := [(L, .ns m)]) (T := T') (Y := U' ++ H₀)) (Sub.under' (X := T') (Sub.rot (X := [(L, .ns m)]) (T := U') (Y := H₀)))
  exact Sub.trans (Sub.of_perm (List.Perm.swap ..)) (Sub.cons e1)
theorem K_id (K : KX C) {k : Nat} (R : Rm A (k + 6)) {T U H₀ : HS} (hT : TabI T) (hU : TabD U) {a b : Int} (hs : Sub (T ++ (U ++ H₀)) H) (ok : idOk a b)
    (h : ∀ t T' U', TabI T' → TabD U' → Q (.ref t) ((t, .tup [.int (idS a b).1, .int (idS a b).2]) :: (T' ++ (U' ++ H₀)))) : OPL C A (fun Vs => call (.ref 80) Vs) [.int a, .int b] L m H Q := by
  obtain ⟨hb, ok⟩ := ok
  by_cases ha : a < 0
  · rw [if_pos ha] at ok
    unfold idS at h
    simp only [if_pos ha] at h
    refine OPL.sub hs ?_
    refine FnK.call K.f_int_divmod K.G R ["a", "b", "q", "r"] rfl (by decide +kernel) fun env cs hc E => ?_
    replace hc : cs = [] := List.eq_nil_of_length_eq_zero hc
    subst hc
    simp only [List.zip_cons_cons, List.zip_nil_left, List.map_cons, List.map_nil, newCells, List.nil_append]
    simp only [BNDA]
    refine STN.loc E (by wtm_at "a") (by wtm_at "a") (STN.loc E (by wtm_at "a") (by wtm_at "a") ?_)
    conv => arg 3; whnf
    have hh : (A.deeper env).handled = none := R.handled
    repeat wtm_at "n"
    rw [show (b == 0) = false from beq_eq_false_iff_ne.mpr (by lia), if_neg (by decide)]
    repeat wtm_at "n"
    rw [decide_eq_false (show ¬ b < 0 by lia), if_neg (by decide)]
    repeat wtm_at "n"
    rw [decide_eq_true ha, if_pos rfl]
    refine EB.assignTup ?_
    refine EV.callK K.f_int_divmod ?_
    repeat wtm_at "n"
    refine ⟨rfl, ?_⟩
    repeat wtm_at "n"
    refine K_idp K (R.deeper env) (T := T) (U := U) (H₀ := (L, .ns m) :: H₀) hT hU ?_ hb ok.1 ok.2 fun t T' U' hT' hU' => ?_
    · refine Sub.trans (Sub.under' (X := T) (Sub.rot (X := U) (T := [(L, .ns m)]) (Y := H₀))) ?_
      exact Sub.rot (X := T) (T := [(L, .ns m)]) (Y := U ++ H₀)
    refine ASG.pair hh (by wtm_at "m") ?_
    repeat wtm_at "n"
    refine ⟨Nat.le_of_ble_eq_true rfl, fun t2 => ?_⟩
    simp only [seqQ]
    refine ⟨_, ?_, h t2 T' U' hT' hU'⟩
    have e1 : Sub ((L, .ns m) :: (T' ++ (U' ++ H₀))) (T' ++ (U' ++ (L, .ns m) :: H₀)) :=
      Sub.trans (Sub.rot (X := [(L, .ns m)]) (T := T') (Y := U' ++ H₀)) (Sub.under' (X := T') (Sub.rot (X := [(L, .ns m)]) (T := U') (Y := H₀)))
    exact Sub.trans (Sub.of_perm (List.Perm.swap ..)) (Sub.cons (Sub.drop e1))
  · rw [if_neg ha] at ok
    unfold idS at h
    simp only [if_neg ha] at h
    exact K_idp K (k := k + 1) R hT hU hs hb (by lia) ok h
end
theorem id3 : ∀ a : Fin 13, idOk ((a.val : Int) - 6) 3 ∧ idS ((a.val : Int) - 6) 3 = (((a.val : Int) - 6).fdiv 3, ((a.val : Int) - 6).fmod 3) := by decide +kernel
theorem id6 : ∀ a : Fin 64, idOk ((a.val : Int) - 32) 6 ∧ idS ((a.val : Int) - 32) 6 = (((a.val : Int) - 32).fdiv 6, ((a.val : Int) - 32).fmod 6) := by decide +kernel

/- _law_apart -/
noncomputable abbrev isHue (c : Nat) : Prop := c = 114 ∨ c = 103 ∨ c = 98
noncomputable def idxOf (c : Nat) : Int := if c = 114 then 0 else if c = 103 then 1 else 2
noncomputable def fwdS (c d : Nat) : Bool := (c = 114 ∧ d = 103) ∨ (c = 103 ∧ d = 98) ∨ (c = 98 ∧ d = 114)
theorem fwd_ok {c d : Nat} (hc : isHue c) (hd : isHue d) : (!(Builtin.Str.occurrences (Str.ofString "rgbr") (ofL [c, d]) 0 (Str.ofString "rgbr").length 1).isEmpty) = fwdS c d := by
  rcases hc with rfl | rfl | rfl <;> rcases hd with rfl | rfl | rfl <;> decide +kernel
theorem idx_ok {c : Nat} (hc : isHue c) : ∃ i rest, Builtin.Str.occurrences (Str.ofString "rgb") (ofL [c]) 0 (Str.ofString "rgb").length 1 = i :: rest ∧ (i : Int) = idxOf c := by
  rcases hc with rfl | rfl | rfl
  · exact ⟨0, [], by decide +kernel, by decide⟩
  · exact ⟨1, [], by decide +kernel, by decide⟩
  · exact ⟨2, [], by decide +kernel, by decide⟩
noncomputable def aAt (steps : List Int) (first : Int) (cs : List Nat) : Nat → List Int
  | 0 => [((first - idxOf (cs.getD 0 0)) * 4).fmod 6]
  | k + 1 => aAt steps first cs k ++ [(aAt steps first cs k).getLastD 0 + steps.getD k 0 - (if fwdS (cs.getD k 0) (cs.getD (k + 1) 0) = true then 1 else -1)]
noncomputable def apartS (steps : List Int) (first : Int) (cs : List Nat) : List Int := aAt steps first cs (cs.length - 1)
theorem aAt_len (steps : List Int) (first : Int) (cs : List Nat) : ∀ i, (aAt steps first cs i).length = i + 1
  | 0 => rfl
  | i + 1 => by rw [aAt, List.length_append, aAt_len steps first cs i]; rfl
theorem drop_two {cs : List Nat} {k : Nat} (h : k + 1 < cs.length) : (cs.drop k).take 2 = [cs.getD k 0, cs.getD (k + 1) 0] := by
  rw [List.drop_eq_getElem_cons (by lia), List.drop_eq_getElem_cons h]
  rw [List.getD_eq_getElem?_getD, List.getD_eq_getElem?_getD, List.getElem?_eq_getElem (by lia), List.getElem?_eq_getElem h]
  rfl
theorem hue_at {cs : List Nat} (h : ∀ c ∈ cs, isHue c) {k : Nat} (hk : k < cs.length) : isHue (cs.getD k 0) := by
  rw [List.getD_eq_getElem?_getD, List.getElem?_eq_getElem hk]; exact h _ (List.getElem_mem hk)

theorem seqIdx_nat {k n : Nat} (h : k < n) : seqIndex? (k : Int) n = some k := by
  simp only [seqIndex?]
  rw [if_neg (show ¬ (k : Int) < 0 by lia), if_pos (by simp only [Bool.and_eq_true, decide_eq_true_eq]; lia), Int.toNat_natCast]
theorem K_apart {C : Cx} {A : Around} {L : Addr} {m : Loc} {H : HS} {Q : AV → HS → Prop} (K : KX C) {d : Nat} (R : Rm A (d + 1)) {first : Int} {a : Addr} {steps : List Int} {cs : List Nat} (hm : (a, AO.list (steps.map .int)) ∈ H) (h1 : 1 ≤ cs.length) (h2 : cs.length ≤ 10) (hl : steps.length = cs.length) (hc : ∀ c ∈ cs, isHue c)
    (h : ∀ b, Q (.ref b) ((b, .list ((apartS steps first cs).map .int)) :: H)) : OPL C A (fun Vs => call (.ref 298) Vs) [.ref a, .int first, .str (ofL cs)] L m H Q := by
  unfold apartS at h
  refine FnK.call K.f_apart K.G R ["steps", "first", "word", "apart", "k"] rfl (by decide +kernel) fun env cs' hcs E => ?_
  replace hcs : cs' = [] := List.eq_nil_of_length_eq_zero hcs
  subst hcs
  simp only [List.zip_cons_cons, List.zip_nil_left, List.map_cons, List.map_nil, newCells, List.nil_append]
  simp only [BNDA]
  refine STN.loc E (by wtm_at "a") (by wtm_at "a") (STN.loc E (by wtm_at "a") (by wtm_at "a") (STN.loc E (by wtm_at "a") (by wtm_at "a") ?_))
  conv => arg 3; whnf
  have hh : (A.deeper env).handled = none := R.handled
  have h0 : isHue (cs.getD 0 0) := hue_at hc (by lia)
  have hm' : (a, AO.list (steps.map .int)) ∈ (L, AO.ns m) :: H := List.Mem.tail _ hm
  obtain ⟨i0, rest0, ho, ei⟩ := idx_ok h0
  repeat wtm_at "n"
  refine EV.index ?_
  repeat wtm_at "n"
  refine ⟨_, rfl, ?_⟩
  repeat wtm_at "n"
  refine SUB.str (j := 0) (c := cs.getD 0 0) ?_ ?_ ?_
  · rw [ofL_len]; exact seqIdx_nat (k := 0) (by lia)
  · show cs.toArray[0]? = _
    rw [List.getElem?_toArray, List.getD_eq_getElem?_getD, List.getElem?_eq_getElem (by lia)]; rfl
  refine ⟨_, i0, rest0, rfl, ho, ?_⟩
  rw [ei]
  repeat wtm_at "n"
  refine OP.mulr (by decide) ?_
  repeat wtm_at "n"
  refine OP.fmod (by decide) ?_
  repeat wtm_at "n"
  refine ⟨Nat.le_of_ble_eq_true rfl, fun b => ?_⟩
  repeat wtm_at "n"
  refine CB.lenStr (by rw [ofL_len]; lia) ?_
  repeat wtm_at "n"
  refine CB.range1 fun r => ?_
  obtain ⟨J1, hJ1⟩ : ∃ J : Nat → Loc → HS → Prop, ∀ i m' H', J i m' H' ↔ (∀ P : Prop, (∀ kv, m' = ([("steps", .ref a), ("first", .int first), ("word", .str (ofL cs)), ("apart", .ref b), ("k", kv)] : Loc) → H' = (r, .rng 0 (((ofL cs).length : Int) - 1) 1) :: (b, .list ((aAt steps first cs i).map .int)) :: (L, .ns m) :: H → P) → P) := ⟨_, fun _ _ _ => Iff.rfl⟩
  refine forR (cs.length - 1) J1 ?_ (by lia) hh ((hJ1 _ _ _).mpr fun _ kk => kk _ rfl rfl) (fun i m' H' hi hj => ?_) fun m' H' hj => ?_
  · rw [ofL_len]; lia
  · refine (hJ1 _ _ _).mp hj _ fun kv ee1 ee2 => ?_
    subst ee1; subst ee2
    have hlen := aAt_len steps first cs i
    repeat wtm_at "n"
    refine EV.append ?_
    repeat wtm_at "n"
    refine ⟨_, _, rfl, by wtm_at "m", ?_⟩
    repeat wtm_at "n"
    refine SUB.list (by wtm_at "m") (j := i) (x := .int ((aAt steps first cs i).getLastD 0)) ?_ ?_ ?_
    · simp [seqIndex?, hlen]; lia
    · rw [List.getElem?_map, List.getLastD_eq_getLast?, List.getLast?_eq_getElem?, hlen, show i + 1 - 1 = i by lia, List.getElem?_eq_getElem (by lia)]; rfl
    repeat wtm_at "n"
    refine SUB.list (List.Mem.tail _ (List.Mem.tail _ hm')) (j := i) (x := .int (steps.getD i 0)) ?_ ?_ ?_
    · simp [seqIndex?]; lia
    · rw [List.getElem?_map, List.getD_eq_getElem?_getD, List.getElem?_eq_getElem (by lia)]; rfl
    repeat wtm_at "n"
    refine EV.sliceS ?_
    repeat wtm_at "n"
    refine EP.some ?_
    repeat wtm_at "n"
    refine ⟨_, rfl, EP.some ?_⟩
    repeat wtm_at "n"
    have e2 := pickS_two (l := cs) (k := i) (by lia)
    refine ⟨_, rfl, _, rfl, ?_, ?_⟩
    · rw [e2, ofL_len]; simp; omega
    rw [e2, drop_two (by lia)]
    repeat wtm_at "n"
    refine OP.ins ?_
    rw [fwd_ok (hue_at hc (by lia)) (hue_at hc (by lia))]
    repeat wtm_at "n"
    cases hf : fwdS (cs.getD i 0) (cs.getD (i + 1) 0)
    · rw [if_neg (by decide)]
      repeat wtm_at "n"
      refine ⟨_, _, by wtm_at "a", by simp; lia, ?_⟩
      refine EB.nil ((hJ1 _ _ _).mpr fun _ kk => kk _ rfl ?_)
      rw [aAt, hf, List.map_append]; rfl
    · rw [if_pos rfl]
      repeat wtm_at "n"
      refine ⟨_, _, by wtm_at "a", by simp; lia, ?_⟩
      refine EB.nil ((hJ1 _ _ _).mpr fun _ kk => kk _ rfl ?_)
      rw [aAt, hf, List.map_append]; rfl
  · refine (hJ1 _ _ _).mp hj _ fun kv ee1 ee2 => ?_
    subst ee1; subst ee2
    repeat wtm_at "n"
    exact ⟨_, by wtm_at "sub", h b⟩

theorem vI {K : AV → HS → Prop} {a b : Int} {H : HS} (e : a = b) (h : K (.int b) H) : K (.int a) H := e ▸ h
/- _law_far -/
noncomputable abbrev Far := List (List Nat × Int)
noncomputable def lkE (es : Far) (w : List Nat) : Option Int := (es.find? fun p => p.1 = w).map (·.2)
noncomputable def encE (es : Far) : List (Str × AV) := es.map fun p => (ofL p.1, .int p.2)
noncomputable def encK (es : Far) : List AV := es.map fun p => .str (ofL p.1)
noncomputable def newW (one : List Nat) (place c : Nat) : List Nat := one.take place ++ [c] ++ one.drop (place + 1)
noncomputable def turnF (n : Nat) (one : List Nat) (es : Far) (place : Nat) : Option Far :=
  if one.getD ((place + n - 1) % n) 0 = one.getD ((place + 1) % n) 0 then
    if 315 < one.getD ((place + n - 1) % n) 0 + one.getD place 0 then none
    else if (lkE es (newW one place (315 - one.getD ((place + n - 1) % n) 0 - one.getD place 0))).isSome then some es
    else (lkE es one).map fun d => es ++ [(newW one place (315 - one.getD ((place + n - 1) % n) 0 - one.getD place 0), d + 1)]
  else some es
noncomputable def roundF (n : Nat) (one : List Nat) (es : Far) : Nat → Option Far
  | 0 => some es
  | i + 1 => (roundF n one es i).bind fun es' => turnF n one es' i
noncomputable def bfsF (n : Nat) : Nat → Far → Nat → Option Far
  | 0, es, k => if k < es.length then none else some es
  | f + 1, es, k => if k < es.length then
      (if (es.getD k ([], 0)).1.length = n ∧ es.length ≤ 900 then (roundF n (es.getD k ([], 0)).1 es n).bind fun es' => bfsF n f es' (k + 1) else none)
    else some es
theorem dget_enc (w : List Nat) : ∀ es : Far, dget (encE es) (ofL w) = (lkE es w).map .int
  | [] => rfl
  | (k, v) :: es => by
    have ih := dget_enc w es
    unfold dget lkE encE at ih ⊢
    by_cases h : k = w
    · subst h; simp
    · have h' : ofL k ≠ ofL w := fun e => h (ofL_inj.mp e)
      simpa [List.find?_cons, h, h'] using ih
theorem dset_enc {w : List Nat} {es : Far} (v : Int) (h : (lkE es w).isSome = false) : dset (encE es) (ofL w) (.int v) = encE (es ++ [(w, v)]) := by
  unfold dset
  have : ((encE es).any fun kv => decide (kv.1 = ofL w)) = false := by
    unfold lkE at h
    rw [List.any_eq_false]
    intro p hp
    obtain ⟨q, hq, rfl⟩ := List.mem_map.mp hp
    simp only [Option.isSome_map, List.find?_isSome, decide_eq_true_eq] at h
    simp only [decide_eq_true_eq]
    intro e
    have : (es.find? fun p => decide (p.1 = w)).isSome = true := List.find?_isSome.mpr ⟨q, hq, by simpa using ofL_inj.mp e⟩
    rw [h] at this; cases this
  rw [if_neg (by rw [this]; decide)]
  unfold encE; rw [List.map_append]; rfl
theorem turnF_len {n : Nat} {one : List Nat} {es es' : Far} {p : Nat} (h : turnF n one es p = some es') : es'.length ≤ es.length + 1 := by
  unfold turnF at h
  split at h
  · split at h
    · cases h
    · split at h
      · cases h; lia
      · obtain ⟨d, _, rfl⟩ := Option.map_eq_some_iff.mp h
        simp
  · cases h; lia
theorem roundF_len {n : Nat} {one : List Nat} {es : Far} : ∀ {i : Nat} {es' : Far}, roundF n one es i = some es' → es'.length ≤ es.length + i
  | 0, _, h => by cases h; lia
  | i + 1, es', h => by
    obtain ⟨e1, h1, h2⟩ := Option.bind_eq_some_iff.mp h
    have := roundF_len h1; have := turnF_len h2; lia

theorem roundF_some {n : Nat} {one : List Nat} {es : Far} : ∀ {m : Nat} {e : Far} {j : Nat}, roundF n one es m = some e → j ≤ m → ∃ e', roundF n one es j = some e'
  | 0, e, j, h, hj => by obtain rfl : j = 0 := by lia
                         exact ⟨e, h⟩
  | m + 1, e, j, h, hj => by
    by_cases q : j = m + 1
    · subst q; exact ⟨e, h⟩
    · obtain ⟨e1, h1, h2⟩ := Option.bind_eq_some_iff.mp h
      exact roundF_some h1 (by lia)
theorem strAt {one : List Nat} {j : Nat} (h : j < one.length) : (ofL one).cps[j]? = some (one.getD j 0) := by
  show one.toArray[j]? = _
  rw [List.getElem?_toArray, List.getD_eq_getElem?_getD, List.getElem?_eq_getElem h]; rfl
theorem seqBack {i n : Nat} (h : i < n) : seqIndex? ((i : Int) - 1) n = some ((i + n - 1) % n) := by
  simp only [seqIndex?]
  by_cases h0 : i = 0
  · subst h0
    rw [if_pos (show ((0 : Nat) : Int) - 1 < 0 by omega), if_pos (by simp only [Bool.and_eq_true, decide_eq_true_eq]; lia), Nat.mod_eq_of_lt (by omega)]
    congr 1; lia
  · rw [if_neg (show ¬ (i : Int) - 1 < 0 by lia), if_pos (by simp only [Bool.and_eq_true, decide_eq_true_eq]; lia)]
    rw [show i + n - 1 = (i - 1) + n by lia, Nat.add_mod_right, Nat.mod_eq_of_lt (by omega)]
    congr 1; lia
theorem fmodNext (i n : Nat) : ((i : Int) + 1).fmod (n : Int) = (((i + 1) % n : Nat) : Int) := by
  rw [Int.fmod_eq_emod_of_nonneg _ (by lia), show ((i : Int) + 1) = ((i + 1 : Nat) : Int) by lia]
  first | exact (Int.natCast_mod (i + 1) n).symm | exact (Int.natCast_emod (i + 1) n).symm | exact (Int.ofNat_emod (i + 1) n).symm | rfl

theorem K_far {C : Cx} {A : Around} {L : Addr} {m : Loc} {H : HS} {Q : AV → HS → Prop} (K : KX C) {d : Nat} (R : Rm A (d + 1)) {cs : List Nat} {fuel : Nat} {res : Far} (h1 : 1 ≤ cs.length) (h2 : cs.length ≤ 10) (hres : bfsF cs.length fuel [(cs, 0)] 0 = some res)
    (h : ∀ b, Q (.ref b) ((b, .dict (encE res)) :: H)) : OPL C A (fun Vs => call (.ref 281) Vs) [.str (ofL cs)] L m H Q := by
  refine FnK.call K.f_far K.G R ["word", "n", "far", "line", "k", "one", "place", "beside", "paint", "anew"] rfl (by decide +kernel) fun env cs' hcs E => ?_
  replace hcs : cs' = [] := List.eq_nil_of_length_eq_zero hcs
  subst hcs
  simp only [List.zip_cons_cons, List.zip_nil_left, List.map_cons, List.map_nil, newCells, List.nil_append]
  simp only [BNDA]
  refine STN.loc E (by wtm_at "a") (by wtm_at "a") ?_
  conv => arg 3; whnf
  have hh : (A.deeper env).handled = none := R.handled
  repeat wtm_at "n"
  refine CB.lenStr (by rw [ofL_len]; lia) ?_
  refine vI (congrArg Nat.cast (ofL_len _)) ?_
  repeat wtm_at "n"
  refine EV.dict1 ?_
  repeat wtm_at "n"
  refine ⟨_, rfl, ?_⟩
  repeat wtm_at "n"
  intro fd
  repeat wtm_at "n"
  refine ⟨Nat.le_of_ble_eq_true rfl, fun ln => ?_⟩
  repeat wtm_at "n"
  obtain ⟨J1, hJ1⟩ : ∃ J : Nat → Loc → HS → Prop, ∀ f m' H', J f m' H' ↔ (∀ P : Prop, (∀ (es : Far) (k : Nat) (v1 v2 v3 v4 v5 : AV), bfsF cs.length f es k = some res → es.length ≤ 950 → m' = ([("word", .str (ofL cs)), ("n", .int cs.length), ("far", .ref fd), ("line", .ref ln), ("k", .int k), ("one", v1), ("place", v2), ("beside", v3), ("paint", v4), ("anew", v5)] : Loc) → H' = (ln, .list (encK es)) :: (fd, .dict (encE es)) :: (L, .ns m) :: H → P) → P) := ⟨_, fun _ _ _ => Iff.rfl⟩
  refine EB.while J1 fuel ((hJ1 _ _ _).mpr fun _ kk => kk ([(cs, 0)]) 0 _ _ _ _ _ hres (by simp) rfl rfl) ?_
  intro f m' H' hj
  refine (hJ1 _ _ _).mp hj _ fun es k v1 v2 v3 v4 v5 hb hes ee1 ee2 => ?_
  subst ee1; subst ee2
  have hkl : (encK es).length = es.length := by simp [encK]
  repeat wtm_at "n"
  refine CB.lenList (by wtm_at "m") (by rw [hkl]; lia) ?_
  refine vI (congrArg Nat.cast hkl) ?_
  repeat wtm_at "n"
  by_cases hk : k < es.length
  · refine ifT (decide_eq_true (show (k : Int) < (es.length : Int) by lia)) ?_
    cases f with
    | zero => rw [bfsF, if_pos hk] at hb; cases hb
    | succ f =>
    rw [bfsF, if_pos hk] at hb
    generalize hone : (es.getD k ([], 0)).1 = one at hb
    by_cases hc : one.length = cs.length ∧ es.length ≤ 900
    · rw [if_pos hc] at hb
      obtain ⟨es2, hr, hb⟩ := Option.bind_eq_some_iff.mp hb
      obtain ⟨hc1, hc2⟩ := hc
      repeat wtm_at "n"
      refine SUB.list (by wtm_at "m") (j := k) (x := .str (ofL one)) ?_ ?_ ?_
      · rw [hkl]; exact seqIdx_nat hk
      · rw [← hone, encK, List.getElem?_map, List.getD_eq_getElem?_getD, List.getElem?_eq_getElem hk]; rfl
      repeat wtm_at "n"
      refine CB.range1 fun r => ?_
      obtain ⟨J2, hJ2⟩ : ∃ J : Nat → Loc → HS → Prop, ∀ i m' H', J i m' H' ↔ (∀ P : Prop, (∀ (es' : Far) (v2 v3 v4 v5 : AV), roundF cs.length one es i = some es' → m' = ([("word", .str (ofL cs)), ("n", .int cs.length), ("far", .ref fd), ("line", .ref ln), ("k", .int ((k : Int) + 1)), ("one", .str (ofL one)), ("place", v2), ("beside", v3), ("paint", v4), ("anew", v5)] : Loc) → H' = (r, .rng 0 cs.length 1) :: (ln, .list (encK es')) :: (fd, .dict (encE es')) :: (L, .ns m) :: H → P) → P) := ⟨_, fun _ _ _ => Iff.rfl⟩
      refine forR cs.length J2 rfl (by lia) hh ((hJ2 _ _ _).mpr fun _ kk => kk es _ _ _ _ rfl rfl rfl) (fun i m' H' hi hj => ?_) fun m' H' hj => ?_
      · refine (hJ2 _ _ _).mp hj _ fun es' w2 w3 w4 w5 hr' ee1 ee2 => ?_
        subst ee1; subst ee2
        have hsz := roundF_len hr'
        obtain ⟨e3, h3⟩ := roundF_some (j := i + 1) hr (by lia)
        have h3' : turnF cs.length one es' i = some e3 := by
          obtain ⟨e4, h4, h5⟩ := Option.bind_eq_some_iff.mp h3
          rw [hr'] at h4; cases h4; exact h5
        have hn0 : 0 < cs.length := h1
        have ha := Nat.mod_lt (i + cs.length - 1) hn0
        have hb1 := Nat.mod_lt (i + 1) hn0
        have hel : (encE es').length = es'.length := by simp [encE]
        have hkl2 : (encK es').length = es'.length := by simp [encK]
        unfold turnF at h3'
        wtm_at "n"
        repeat wtm_at "n"
        refine SUB.str (j := (i + cs.length - 1) % cs.length) (c := one.getD ((i + cs.length - 1) % cs.length) 0) ?_ (strAt (by lia)) ?_
        · rw [ofL_len, hc1]; exact seqBack hi
        rw [show (⟨#[one.getD ((i + cs.length - 1) % cs.length) 0]⟩ : Str) = ofL [one.getD ((i + cs.length - 1) % cs.length) 0] from rfl]
        generalize hbe : one.getD ((i + cs.length - 1) % cs.length) 0 = be at *
        repeat wtm_at "n"
        refine OP.fmod (by lia) ?_
        refine vI (fmodNext _ _) ?_
        refine SUB.str (j := (i + 1) % cs.length) (c := one.getD ((i + 1) % cs.length) 0) ?_ (strAt (by lia)) ?_
        · rw [ofL_len, hc1]; exact seqIdx_nat hb1
        rw [show (⟨#[one.getD ((i + 1) % cs.length) 0]⟩ : Str) = ofL [one.getD ((i + 1) % cs.length) 0] from rfl]
        generalize one.getD ((i + 1) % cs.length) 0 = nx at *
        repeat wtm_at "n"
        rw [ofL_beq]
        by_cases hq : be = nx
        · subst hq
          refine ifT (beq_self_eq_true _) ?_
          rw [if_pos rfl] at h3'
          by_cases hov : 315 < be + one.getD i 0
          · rw [if_pos hov] at h3'; cases h3'
          rw [if_neg hov] at h3'
          repeat wtm_at "n"
          refine CB.ord (x := ofL [be]) rfl ?_
          repeat wtm_at "n"
          refine SUB.str (j := i) (c := one.getD i 0) ?_ (strAt (by lia)) ?_
          · rw [ofL_len, hc1]; exact seqIdx_nat hi
          rw [show (⟨#[one.getD i 0]⟩ : Str) = ofL [one.getD i 0] from rfl]
          generalize hx0 : one.getD i 0 = x0 at *
          repeat wtm_at "n"
          refine CB.ord (x := ofL [x0]) rfl ?_
          rw [show ((ofL [be]).cps.getD 0 0 : Nat) = be from rfl, show ((ofL [x0]).cps.getD 0 0 : Nat) = x0 from rfl]
          repeat wtm_at "n"
          refine CB.chr (by lia) (by lia) ?_
          rw [show (⟨#[((315 : Int) - be - x0).toNat]⟩ : Str) = ofL [315 - be - x0] by rw [show ((315 : Int) - be - x0).toNat = 315 - be - x0 by lia]; rfl]
          repeat wtm_at "n"
          refine EV.sliceS ?_
          repeat wtm_at "n"
          refine EP.none (EP.some ?_)
          repeat wtm_at "n"
          refine ⟨_, rfl, _, rfl, ?_, ?_⟩
          · rw [pickS_to (by lia), ofL_len, List.length_take]; lia
          rw [pickS_to (by lia)]
          repeat wtm_at "n"
          refine OP.adds ?_ ?_
          · rw [ofL_len, ofL_len, List.length_take]; exact Nat.le_trans (show _ ≤ 100 by simp; lia) (by decide)
          rw [ofL_app]
          refine EV.sliceS ?_
          repeat wtm_at "n"
          refine EP.some ?_
          repeat wtm_at "n"
          refine ⟨_, rfl, EP.none ⟨_, rfl, ?_⟩⟩
          rw [show ((i : Int) + 1) = ((i + 1 : Nat) : Int) by lia, pickS_from (by lia)]
          refine ⟨?_, ?_⟩
          · rw [ofL_len, List.length_drop]; lia
          refine OP.adds ?_ ?_
          · rw [ofL_len, ofL_len]; exact Nat.le_trans (show _ ≤ 100 by simp; lia) (by decide)
          rw [ofL_app, show one.take i ++ [315 - be - x0] ++ one.drop (i + 1) = newW one i (315 - be - x0) from rfl]
          generalize newW one i (315 - be - x0) = nw at *
          repeat wtm_at "n"
          refine OP.nind K.G (by wtm_at "m") ?_
          rw [dget_enc, Option.isSome_map]
          repeat wtm_at "n"
          by_cases hin : (lkE es' nw).isSome = true
          · rw [if_pos hin] at h3'; cases h3'
            refine ifF (by rw [hin]; rfl) ?_
            refine EB.nil ?_
            simp only [seqQ]
            refine EB.nil ?_
            simp only [seqQ]
            refine EB.nil ?_
            exact ((hJ2 _ _ _).mpr fun _ kk => kk es' _ _ _ _ h3 rfl rfl)
          · rw [if_neg hin] at h3'
            have hin' : (lkE es' nw).isSome = false := by simpa using hin
            obtain ⟨dd, hdd, rfl⟩ := Option.map_eq_some_iff.mp h3'
            refine ifT (by rw [hin']; rfl) ?_
            repeat wtm_at "n"
            refine SUB.dict (by wtm_at "m") (v := .int dd) ?_ ?_
            · rw [dget_enc, hdd]; rfl
            repeat wtm_at "n"
            refine ST.dict' (es' := encE (es' ++ [(nw, dd + 1)])) (by wtm_at "a") (by rw [hel]; lia) (dset_enc _ hin').symm ?_
            repeat wtm_at "n"
            refine EV.append ?_
            repeat wtm_at "n"
            refine ⟨_, _, rfl, by wtm_at "m", ?_⟩
            repeat wtm_at "n"
            refine ⟨_, _, by wtm_at "a", by rw [hkl2]; lia, ?_⟩
            refine EB.nil ?_
            simp only [seqQ]
            refine EB.nil ?_
            simp only [seqQ]
            refine EB.nil ?_
            refine ((hJ2 _ _ _).mpr fun _ kk => kk (es' ++ [(nw, dd + 1)]) _ _ _ _ h3 rfl ?_)
            unfold encK; rw [List.map_append]; rfl
        · refine ifF (beq_eq_false_iff_ne.mpr (by simpa using hq)) ?_
          rw [if_neg hq] at h3'
          cases h3'
          refine EB.nil ?_
          simp only [seqQ]
          refine EB.nil ?_
          exact ((hJ2 _ _ _).mpr fun _ kk => kk es' _ _ _ _ h3 rfl rfl)
      · refine (hJ2 _ _ _).mp hj _ fun es' w2 w3 w4 w5 hr' ee1 ee2 => ?_
        subst ee1; subst ee2
        rw [hr] at hr'; cases hr'
        have := roundF_len hr
        refine EB.sub (H' := (ln, .list (encK es2)) :: (fd, .dict (encE es2)) :: (L, .ns m) :: H) (by wtm_at "sub") ?_
        exact EB.nil ⟨f, Nat.lt_succ_self f, ((hJ1 _ _ _).mpr fun _ kk => kk es2 (k + 1) _ _ _ _ _ hb (by lia) rfl rfl)⟩
    · rw [if_neg hc] at hb; cases hb
  · refine ifF (decide_eq_false (show ¬ (k : Int) < (es.length : Int) by lia)) ?_
    have e : res = es := by
      cases f with
      | zero => rw [bfsF, if_neg hk] at hb; cases hb; rfl
      | succ f => rw [bfsF, if_neg hk] at hb; cases hb; rfl
    subst e
    repeat wtm_at "n"
    exact ⟨(fd, .dict (encE res)) :: H, by wtm_at "sub", h fd⟩

/- hsv_to_rgb -/
noncomputable abbrev fl1 : UInt64 := 4607182418800017408
noncomputable abbrev fl6 : UInt64 := 4618441417868443648
noncomputable def hsvT (j : Int) (v p q t : AV) : List AV := if j = 0 then [v, t, p] else if j = 1 then [q, v, p] else if j = 2 then [p, v, t] else if j = 3 then [p, q, v] else if j = 4 then [t, p, v] else [v, p, q]
theorem K_hsv {C : Cx} {A : Around} {L : Addr} {m : Loc} {H : HS} {Q : AV → HS → Prop} (K : KX C) {d : Nat} (R : Rm A (d + 1)) {h s v : UInt64} {sg : Bool} {mm : Nat} {e : Int}
    (hs : (Float64.cmp s 0 == some Ordering.eq) = false) (hd : Float64.decode (Float64.mul h fl6) = .fin sg mm e) (hi : Float64.isInf (Float64.ofInt (Float64.truncOf sg mm e)) = false)
    (hQ : ∀ r, Q (.ref r) ((r, .tup (hsvT ((Float64.truncOf sg mm e).fmod 6) (.flt v) (.flt (Float64.mul v (Float64.sub fl1 s)))
      (.flt (Float64.mul v (Float64.sub fl1 (Float64.mul s (Float64.sub (Float64.mul h fl6) (Float64.ofInt (Float64.truncOf sg mm e)))))))
      (.flt (Float64.mul v (Float64.sub fl1 (Float64.mul s (Float64.sub fl1 (Float64.sub (Float64.mul h fl6) (Float64.ofInt (Float64.truncOf sg mm e)))))))))) :: H)) :
    OPL C A (fun Vs => call (.ref 94) Vs) [.flt h, .flt s, .flt v] L m H Q := by
  refine FnK.call K.f_hsv K.G R ["h", "s", "v", "i", "f", "p", "q", "t"] rfl (by decide +kernel) fun env cs hc E => ?_
  replace hc : cs = [] := List.eq_nil_of_length_eq_zero hc
  subst hc
  simp only [List.zip_cons_cons, List.zip_nil_left, List.map_cons, List.map_nil, newCells, List.nil_append]
  simp only [BNDA]
  refine STN.loc E (by wtm_at "a") (by wtm_at "a") (STN.loc E (by wtm_at "a") (by wtm_at "a") (STN.loc E (by wtm_at "a") (by wtm_at "a") ?_))
  conv => arg 3; whnf
  repeat wtm_at "n"
  refine OP.eqf ?_
  repeat wtm_at "n"
  rw [hs, if_neg (by decide)]
  refine EB.nil ?_
  simp only [seqQ]
  repeat wtm_at "n"
  refine OP.mulf ?_
  repeat wtm_at "n"
  refine CB.intf hd ?_
  repeat wtm_at "n"
  refine OP.mulf ?_
  repeat wtm_at "n"
  refine OP.subfi hi ?_
  repeat wtm_at "n"
  refine OP.subf ?_
  repeat wtm_at "n"
  refine OP.mulf ?_
  repeat wtm_at "n"
  refine OP.mulf ?_
  refine OP.subf ?_
  refine OP.mulf ?_
  repeat wtm_at "n"
  refine OP.subf ?_
  refine OP.mulf ?_
  refine OP.subf ?_
  refine OP.mulf ?_
  repeat wtm_at "n"
  refine OP.fmod (by decide) ?_
  repeat wtm_at "n"
  have h0 := Int.fmod_nonneg_of_pos (Float64.truncOf sg mm e) (show (0 : Int) < 6 by decide)
  have h6 := Int.fmod_lt_of_pos (Float64.truncOf sg mm e) (show (0 : Int) < 6 by decide)
  generalize (Float64.truncOf sg mm e).fmod 6 = j at *
  have hj : j = 0 ∨ j = 1 ∨ j = 2 ∨ j = 3 ∨ j = 4 ∨ j = 5 := by lia
  rcases hj with rfl | rfl | rfl | rfl | rfl | rfl
  all_goals
    repeat (rw [if_neg (by decide)]; refine EB.nil ?_; simp only [seqQ]; repeat wtm_at "n")
  all_goals
    rw [if_pos (by decide)]
    repeat wtm_at "n"
    refine ⟨Nat.le_of_ble_eq_true rfl, fun r => ?_⟩
    exact ⟨_, Sub.of_perm (List.Perm.swap ..), hQ r⟩

/- _law_light -/
noncomputable def toI (x : UInt64) : Int := match Float64.decode x with
  | .fin s m e => Float64.truncOf s m e
  | _ => 0
noncomputable def isFin (x : UInt64) : Bool := match Float64.decode x with
  | .fin _ _ _ => true
  | _ => false
theorem fin_of {x : UInt64} (h : isFin x = true) : ∃ s m e, Float64.decode x = .fin s m e ∧ toI x = Float64.truncOf s m e := by
  unfold isFin at h
  unfold toI
  cases q : Float64.decode x with
  | fin s m e => exact ⟨s, m, e, rfl, rfl⟩
  | nan => rw [q] at h; cases h
  | inf _ => rw [q] at h; cases h
noncomputable abbrev flh : UInt64 := 4602678819172646912
noncomputable def hueF (n : Int) : UInt64 := Float64.ofFrac (decide (n < 0) != decide ((3 : Int) < 0)) n.natAbs (3 : Int).natAbs
noncomputable def hsvB (j : Int) (v p q t : UInt64) : List UInt64 := if j = 0 then [v, t, p] else if j = 1 then [q, v, p] else if j = 2 then [p, v, t] else if j = 3 then [p, q, v] else if j = 4 then [t, p, v] else [v, p, q]
theorem hsvB_map (j : Int) (v p q t : UInt64) : hsvT j (.flt v) (.flt p) (.flt q) (.flt t) = (hsvB j v p q t).map .flt := by
  unfold hsvT hsvB; split <;> (try split) <;> (try split) <;> (try split) <;> (try split) <;> rfl
/- the three parts for a hue, saturation and value one -/
noncomputable def partsF (h : UInt64) : List UInt64 :=
  let i := toI (Float64.mul h fl6)
  let f := Float64.sub (Float64.mul h fl6) (Float64.ofInt i)
  hsvB (i.fmod 6) fl1 (Float64.mul fl1 (Float64.sub fl1 fl1)) (Float64.mul fl1 (Float64.sub fl1 (Float64.mul fl1 f))) (Float64.mul fl1 (Float64.sub fl1 (Float64.mul fl1 (Float64.sub fl1 f))))
noncomputable def lightS (n : Int) : List Int := (partsF (hueF n)).map fun p => toI (Float64.add p flh)
noncomputable def hueOk (n : Int) : Bool := !Float64.isInf (hueF n) && isFin (Float64.mul (hueF n) fl6) && !Float64.isInf (Float64.ofInt (toI (Float64.mul (hueF n) fl6))) && (partsF (hueF n)).all fun p => isFin (Float64.add p flh)
theorem light_all : ∀ n : Fin 64, hueOk n.val = true ∧ lightS n.val = (if n.val % 3 = 0 then [1, 0, 0] else if n.val % 3 = 1 then [0, 1, 0] else [0, 0, 1]) := by decide +kernel
section
variable {C : Cx} {A : Around} {L : Addr} {m : Loc} {H : HS} {Q : AV → HS → Prop}
theorem K_hsvF (K : KX C) {d : Nat} (R : Rm A (d + 1)) {h : UInt64} (h1 : isFin (Float64.mul h fl6) = true) (h2 : Float64.isInf (Float64.ofInt (toI (Float64.mul h fl6))) = false)
    (hQ : ∀ r, Q (.ref r) ((r, .tup ((partsF h).map .flt)) :: H)) : OPL C A (fun Vs => call (.ref 94) Vs) [.flt h, .flt fl1, .flt fl1] L m H Q := by
  obtain ⟨s, mm, e, hd, he⟩ := fin_of h1
  rw [he] at h2
  refine K_hsv K R (by decide +kernel) hd h2 fun r => ?_
  have := hQ r
  unfold partsF at this
  rw [he, ← hsvB_map] at this
  exact this
theorem K_light (K : KX C) {d : Nat} (R : Rm A (d + 2)) {n : Int} (ok : hueOk n = true) (h : ∀ b, Q (.ref b) ((b, .list ((lightS n).map .int)) :: H)) : OPL C A (fun Vs => call (.ref 286) Vs) [.int n] L m H Q := by
  unfold hueOk at ok
  simp only [Bool.and_eq_true, Bool.not_eq_true', List.all_eq_true] at ok
  obtain ⟨⟨⟨o1, o2⟩, o3⟩, o4⟩ := ok
  refine FnK.call K.f_light K.G R ["dots"] rfl (by decide +kernel) fun env cs hc E => ?_
  replace hc : cs = [] := List.eq_nil_of_length_eq_zero hc
  subst hc
  simp only [List.zip_cons_cons, List.zip_nil_left, List.map_cons, List.map_nil, newCells, List.nil_append]
  simp only [BNDA]
  refine STN.loc E (by wtm_at "a") (by wtm_at "a") ?_
  conv => arg 3; whnf
  have hh : (A.deeper env).handled = none := R.handled
  refine EB.ret ?_
  refine EV.listComp (snames := nm_light_c) (names' := nm_light_c) (cls := []) (locs := [".0", "part"]) E (compSt0 rfl rfl rfl (by decide +kernel)) ?_
  refine EV.callK K.f_hsv ?_
  repeat wtm_at "n"
  refine ⟨rfl, ?_⟩
  repeat wtm_at "n"
  refine OP.divi (by decide) o1 ?_
  repeat wtm_at "n"
  refine K_hsvF K (R.deeper env) o2 o3 fun r => ?_
  rw [show Float64.ofFrac (decide (n < 0) != decide ((3 : Int) < 0)) n.natAbs (3 : Int).natAbs = hueF n from rfl]
  have hl : (partsF (hueF n)).length = 3 := by
    unfold partsF hsvB
    simp only
    split <;> (try split) <;> (try split) <;> (try split) <;> (try split) <;> rfl
  refine LCQ.pure ((lightS n).map .int) (ITERS.tup hh (List.Mem.tail _ (List.Mem.head _))) (fun cenv => List.Mem.tail _ (List.Mem.head _)) (by simp [lightS]) (by rw [List.length_map, hl]; decide) rfl (fun cenv E' i x y hx hy => ?_) fun c => ?_
  · simp only [lightS, List.map_map] at hy
    rw [List.getElem?_map, Option.map_eq_some_iff] at hx hy
    obtain ⟨n1, e1, rfl⟩ := hx
    obtain ⟨n2, e2, rfl⟩ := hy
    rw [e1] at e2; cases e2
    obtain ⟨s, mm, e, hd, he⟩ := fin_of (o4 n1 (List.mem_of_getElem? e1))
    simp only [List.map_cons, List.map_nil]
    repeat wtm_at "n"
    refine OP.addf ?_
    repeat wtm_at "n"
    refine CB.intf hd ?_
    refine ⟨?_, rfl, Sub.refl⟩
    show AV.int _ = AV.int (toI (Float64.add n1 flh))
    rw [he]
  · exact ⟨_, by wtm_at "sub", h c⟩
end

/- rgb_to_hsv -/
noncomputable abbrev fl2 : UInt64 := 4611686018427387904
noncomputable abbrev fl4 : UInt64 := 4616189618054758400
noncomputable def hTri (b1 b2 : Bool) (rc gc bc : UInt64) : UInt64 := if b1 then Float64.sub bc gc else if b2 then Float64.sub (Float64.add fl2 rc) bc else Float64.sub (Float64.add fl4 gc) rc
noncomputable def hMod (h : UInt64) : UInt64 := (Float64.divmod (Float64.div h fl6) fl1).snd
noncomputable def rgbH (r g b : AV) : UInt64 :=
  hMod (hTri (eqN r (maxN r g b)) (eqN g (maxN r g b)) (divN (subN (maxN r g b) r) (subN (maxN r g b) (minN r g b))) (divN (subN (maxN r g b) g) (subN (maxN r g b) (minN r g b))) (divN (subN (maxN r g b) b) (subN (maxN r g b) (minN r g b))))
noncomputable def rgbOk (r g b : AV) : Bool :=
  let M := maxN r g b
  let D := subN M (minN r g b)
  !eqN (minN r g b) M && divOk D M && divOk (subN M r) D && divOk (subN M g) D && divOk (subN M b) D
theorem max_int (a b c : Int) : ∃ z, maxN (.int a) (.int b) (.int c) = .int z := by unfold maxN; split <;> split <;> exact ⟨_, rfl⟩
theorem max_flt (a b c : UInt64) : ∃ z, maxN (.flt a) (.flt b) (.flt c) = .flt z := by unfold maxN; split <;> split <;> exact ⟨_, rfl⟩
theorem min_int (a b c : Int) : ∃ z, minN (.int a) (.int b) (.int c) = .int z := by unfold minN; split <;> split <;> exact ⟨_, rfl⟩
theorem min_flt (a b c : UInt64) : ∃ z, minN (.flt a) (.flt b) (.flt c) = .flt z := by unfold minN; split <;> split <;> exact ⟨_, rfl⟩
section
variable {C : Cx} {A : Around} {L : Addr} {m : Loc} {H : HS} {Q : AV → HS → Prop}
theorem K_rgbG (K : KX C) {d : Nat} (R : Rm A (d + 1)) {r g b M n D M1 M2 M3 : AV} {sv rc gc bc : UInt64} {b1 b2 : Bool} (hn : isN r g b)
    (eM : maxN r g b = M) (en : minN r g b = n) (m1 : is2 r M) (m2 : is2 M r) (m3 : is2 g M) (m4 : is2 M g) (m5 : is2 M b) (m6 : is2 M n) (m7 : is2 n M) (ur : r ≠ .undef) (ug : g ≠ .undef) (ub : b ≠ .undef) (uM : M ≠ .undef) (un : n ≠ .undef) (uD : D ≠ .undef)
    (k1 : is2 D M) (k2 : is2 M1 D) (k3 : is2 M2 D) (k4 : is2 M3 D) (eD : subN M n = D) (o1 : eqN n M = false) (o2 : divOk D M = true) (q1 : subN M r = M1) (q2 : subN M g = M2) (q3 : subN M b = M3) (o3 : divOk M1 D = true) (o4 : divOk M2 D = true) (o5 : divOk M3 D = true) (es : divN D M = sv) (er : divN M1 D = rc) (eg : divN M2 D = gc) (eb : divN M3 D = bc)
    (e1 : eqN r M = b1) (e2 : eqN g M = b2)
    (hQ : ∀ t s v, Q (.ref t) ((t, .tup [.flt (hMod (hTri b1 b2 rc gc bc)), s, v]) :: H)) : OPL C A (fun Vs => call (.ref 87) Vs) [r, g, b] L m H Q := by
  refine FnK.call K.f_rgb K.G R ["r", "g", "b", "maxc", "minc", "rangec", "v", "s", "rc", "gc", "bc", "h"] rfl (by decide +kernel) fun env cs hc E => ?_
  replace hc : cs = [] := List.eq_nil_of_length_eq_zero hc
  subst hc
  simp only [List.zip_cons_cons, List.zip_nil_left, List.map_cons, List.map_nil, newCells, List.nil_append]
  simp only [BNDA]
  refine STN.loc E (by wtm_at "a") (by wtm_at "a") (STN.loc E (by wtm_at "a") (by wtm_at "a") (STN.loc E (by wtm_at "a") (by wtm_at "a") ?_))
  conv => arg 3; whnf
  have hh : (A.deeper env).handled = none := R.handled
  repeat wtm_at "n"
  refine CB.max3 hh hn ?_
  rw [eM]
  repeat wtm_at "n"
  refine CB.min3 hh hn ?_
  rw [en]
  repeat wtm_at "n"
  refine OP.subN m6 ?_
  rw [eD]
  repeat wtm_at "n"
  refine OP.eqN m7 ?_
  repeat wtm_at "n"
  rw [o1, if_neg (by decide)]
  refine EB.nil ?_
  simp only [seqQ]
  repeat wtm_at "n"
  refine OP.divN k1 o2 ?_
  rw [es]
  repeat wtm_at "n"
  refine OP.subN m2 ?_
  rw [q1]
  repeat wtm_at "n"
  refine OP.divN k2 o3 ?_
  rw [er]
  repeat wtm_at "n"
  refine OP.subN m4 ?_
  rw [q2]
  repeat wtm_at "n"
  refine OP.divN k3 o4 ?_
  rw [eg]
  repeat wtm_at "n"
  refine OP.subN m5 ?_
  rw [q3]
  repeat wtm_at "n"
  refine OP.divN k4 o5 ?_
  rw [eb]
  repeat wtm_at "n"
  refine OP.eqN m1 ?_
  rw [e1]
  repeat wtm_at "n"
  have hz6 : Float64.isZero fl6 = false := by decide +kernel
  have hz1 : Float64.isZero fl1 = false := by decide +kernel
  unfold hTri at hQ
  cases b1
  · rw [if_neg (by decide)] at hQ ⊢
    repeat wtm_at "n"
    refine OP.eqN m3 ?_
    rw [e2]
    repeat wtm_at "n"
    cases b2
    · rw [if_neg (by decide)] at hQ ⊢
      repeat wtm_at "n"
      refine OP.addf ?_
      repeat wtm_at "n"
      refine OP.subf ?_
      generalize Float64.sub (Float64.add fl4 gc) rc = hv at hQ ⊢
      wtm_at "n"
      refine EB.nil ?_
      simp only [seqQ]
      refine EB.nil ?_
      simp only [seqQ]
      repeat wtm_at "n"
      refine OP.divf hz6 ?_
      repeat wtm_at "n"
      refine OP.modf hz1 ?_
      rw [show (Float64.divmod (Float64.div hv fl6) fl1).snd = hMod hv from rfl]
      repeat wtm_at "n"
      exact ⟨Nat.le_of_ble_eq_true rfl, fun t => ⟨_, Sub.of_perm (List.Perm.swap ..), hQ _ _ _⟩⟩
    · rw [if_pos rfl] at hQ ⊢
      repeat wtm_at "n"
      refine OP.addf ?_
      repeat wtm_at "n"
      refine OP.subf ?_
      generalize Float64.sub (Float64.add fl2 rc) bc = hv at hQ ⊢
      wtm_at "n"
      refine EB.nil ?_
      simp only [seqQ]
      refine EB.nil ?_
      simp only [seqQ]
      repeat wtm_at "n"
      refine OP.divf hz6 ?_
      repeat wtm_at "n"
      refine OP.modf hz1 ?_
      rw [show (Float64.divmod (Float64.div hv fl6) fl1).snd = hMod hv from rfl]
      repeat wtm_at "n"
      exact ⟨Nat.le_of_ble_eq_true rfl, fun t => ⟨_, Sub.of_perm (List.Perm.swap ..), hQ _ _ _⟩⟩
  · rw [if_pos rfl] at hQ ⊢
    repeat wtm_at "n"
    refine OP.subf ?_
    generalize Float64.sub bc gc = hv at hQ ⊢
    wtm_at "n"
    refine EB.nil ?_
    simp only [seqQ]
    repeat wtm_at "n"
    refine OP.divf hz6 ?_
    repeat wtm_at "n"
    refine OP.modf hz1 ?_
    rw [show (Float64.divmod (Float64.div hv fl6) fl1).snd = hMod hv from rfl]
    repeat wtm_at "n"
    exact ⟨Nat.le_of_ble_eq_true rfl, fun t => ⟨_, Sub.of_perm (List.Perm.swap ..), hQ _ _ _⟩⟩
theorem K_rgb (K : KX C) {d : Nat} (R : Rm A (d + 1)) {r g b : AV} (hn : isN r g b) (ok : rgbOk r g b = true)
    (hQ : ∀ t s v, Q (.ref t) ((t, .tup [.flt (rgbH r g b), s, v]) :: H)) : OPL C A (fun Vs => call (.ref 87) Vs) [r, g, b] L m H Q := by
  unfold rgbOk at ok
  simp only [Bool.and_eq_true, Bool.not_eq_true'] at ok
  obtain ⟨⟨⟨⟨o1, o2⟩, o3⟩, o4⟩, o5⟩ := ok
  unfold rgbH at hQ
  cases hn with
  | @int a b c =>
    obtain ⟨M, hM⟩ := max_int ..
    obtain ⟨n, hm⟩ := min_int ..
    rw [hM] at o1 o2 o3 o4 o5 hQ
    rw [hm] at o1 o2 o3 o4 o5 hQ
    exact K_rgbG K R (D := .int (M - n)) (M1 := .int (M - a)) (M2 := .int (M - b)) (M3 := .int (M - c)) .int hM hm .int .int .int .int .int .int .int nofun nofun nofun nofun nofun nofun .int .int .int .int rfl o1 o2 rfl rfl rfl o3 o4 o5 rfl rfl rfl rfl rfl rfl hQ
  | @flt a b c =>
    obtain ⟨M, hM⟩ := max_flt ..
    obtain ⟨n, hm⟩ := min_flt ..
    rw [hM] at o1 o2 o3 o4 o5 hQ
    rw [hm] at o1 o2 o3 o4 o5 hQ
    exact K_rgbG K R (D := .flt (Float64.sub M n)) (M1 := .flt (Float64.sub M a)) (M2 := .flt (Float64.sub M b)) (M3 := .flt (Float64.sub M c)) .flt hM hm .flt .flt .flt .flt .flt .flt .flt nofun nofun nofun nofun nofun nofun .flt .flt .flt .flt rfl o1 o2 rfl rfl rfl o3 o4 o5 rfl rfl rfl rfl rfl rfl hQ
end

/- _law_winds -/
noncomputable def hue3 (a b c : UInt64) : UInt64 := Float64.add (Float64.mul (rgbH (.flt a) (.flt b) (.flt c)) (Float64.ofInt 3)) flh
noncomputable def hueS (n : Int) : Int := match partsF (hueF n) with
  | [a, b, c] => toI (hue3 a b c)
  | _ => 0
noncomputable def windOk (n : Int) : Bool := !Float64.isInf (hueF n) && isFin (Float64.mul (hueF n) fl6) && !Float64.isInf (Float64.ofInt (toI (Float64.mul (hueF n) fl6))) && match partsF (hueF n) with
  | [a, b, c] => rgbOk (.flt a) (.flt b) (.flt c) && isFin (hue3 a b c)
  | _ => false
theorem wind_all : ∀ n : Fin 64, windOk n.val = true ∧ hueS n.val = (n.val : Int).fmod 3 := by decide +kernel
set_option tactic.hygienic true in
theorem windOk_is {n : Int} (h : windOk n = true) : ∃ a b c s mm e, partsF (hueF n) = [a, b, c] ∧ Float64.isInf (hueF n) = false ∧ isFin (Float64.mul (hueF n) fl6) = true ∧ Float64.isInf (Float64.ofInt (toI (Float64.mul (hueF n) fl6))) = false ∧ rgbOk (.flt a) (.flt b) (.flt c) = true ∧ Float64.decode (hue3 a b c) = .fin s mm e ∧ hueS n = Float64.truncOf s mm e := by
  unfold windOk at h
  unfold hueS
  simp only [Bool.and_eq_true, Bool.not_eq_true'] at h
  obtain ⟨⟨⟨h1, h2⟩, h3⟩, h4⟩ := h
  split at h4
  · rename_i a b c e
    rw [Bool.and_eq_true] at h4
    obtain ⟨s, mm, ex, hd, he⟩ := fin_of h4.2
    refine ⟨a, b, c, s, mm, ex, e, h1, h2, h3, h4.1, hd, he⟩
  · cases h4
noncomputable def gapAt (us : List Int) (k : Nat) : Int := us.getD k 0 - (if k = 0 then us.getLastD 0 else us.getD (k - 1) 0)
noncomputable def windsS (hs : List Int) : Int := ((List.range hs.length).map fun k => (idS (gapAt (hs.map hueS) k) 3).2).sum
noncomputable def windsOk (hs : List Int) : Prop := (∀ n ∈ hs, windOk n = true) ∧ ∀ k, k < hs.length → idOk (gapAt (hs.map hueS) k) 3
theorem Sub.in2 {T U H : HS} {p : Addr × AO} : Sub (T ++ (U ++ p :: H)) (p :: (T ++ (U ++ H))) :=
  Sub.trans (Sub.under' (X := T) (Sub.rot (X := U) (T := [p]) (Y := H))) (Sub.rot (X := T) (T := [p]) (Y := U ++ H))
theorem Sub.out2 {T U H : HS} {p : Addr × AO} : Sub (p :: (T ++ (U ++ H))) (T ++ (U ++ p :: H)) :=
  Sub.trans (Sub.rot (X := [p]) (T := T) (Y := U ++ H)) (Sub.under' (X := T) (Sub.rot (X := [p]) (T := U) (Y := H)))
theorem mem2 {T U H : HS} {p : Addr × AO} (h : p ∈ H) : p ∈ T ++ (U ++ H) := List.mem_append_right _ (List.mem_append_right _ h)
theorem seqIdx_neg {n : Nat} (h : 1 ≤ n) : seqIndex? (((0 : Nat) : Int) - 1) n = some (n - 1) := by
  simp only [seqIndex?]
  rw [if_pos (show (((0 : Nat) : Int) - 1) < 0 by decide), if_pos (by simp only [Bool.and_eq_true, decide_eq_true_eq]; lia)]
  congr 1; lia
theorem IFS.nil {C : Cx} {A : Around} {env : Env} {m : Loc} {H : HS} {Q : Bool → HS → Prop} (h : Q true H) : IFS C A env [] m H Q := h
section
variable {C : Cx} {A : Around} {L : Addr} {m : Loc} {H H₀ : HS} {Q : AV → HS → Prop}
theorem K_winds (K : KX C) {k : Nat} (R : Rm A (k + 7)) {T U : HS} (hT : TabI T) (hU : TabD U) {a : Addr} {hs : List Int} (hsub : Sub (T ++ (U ++ H₀)) H) (hm : (a, AO.list (hs.map .int)) ∈ H₀) (h1 : 1 ≤ hs.length) (h2 : hs.length ≤ 10) (ok : windsOk hs)
    (h : ∀ T' U', TabI T' → TabD U' → Q (.int (windsS hs)) (T' ++ (U' ++ H₀))) : OPL C A (fun Vs => call (.ref 291) Vs) [.ref a] L m H Q := by
  obtain ⟨okw, okd⟩ := ok
  refine OPL.sub hsub ?_
  refine FnK.call K.f_winds K.G R ["heights", "height", "light"] rfl (by decide +kernel) fun env cs hc E => ?_
  obtain ⟨c, rfl⟩ : ∃ c, cs = [c] := by
    rcases cs with _ | ⟨x, _ | ⟨y, r⟩⟩ <;> first | exact ⟨_, rfl⟩ | (exact absurd hc (by simp [cellNames]))
  replace E : EnvOk env nm_winds [("hues", c)] := E
  show BNDA C A.in1 env [("heights", .ref a)] [("heights", .undef), ("height", .undef), ("light", .undef)] ((c, .cell .undef) :: (L, .ns m) :: (T ++ (U ++ H₀))) _
  simp only [BNDA]
  refine STN.loc E (by wtm_at "a") (by wtm_at "a") ?_
  conv => arg 3; whnf
  have hh : (A.deeper env).handled = none := R.handled
  repeat wtm_at "n"
  refine ⟨Nat.le_of_ble_eq_true rfl, fun b => ?_⟩
  repeat wtm_at "n"
  obtain ⟨J1, hJ1⟩ : ∃ J : Nat → Loc → HS → Prop, ∀ i m' H', J i m' H' ↔ (∀ P : Prop, (∀ hv lv, m' = ([("heights", .ref a), ("height", hv), ("light", lv)] : Loc) → H' = (b, .list ((hs.take i).map fun n => .int (hueS n))) :: (c, .cell (.ref b)) :: (L, .ns m) :: (T ++ (U ++ H₀)) → P) → P) := ⟨_, fun _ _ _ => Iff.rfl⟩
  refine forL (xs := hs.map .int) J1 ?_ hh ((hJ1 _ _ _).mpr fun _ kk => kk _ _ rfl rfl) ?_ (fun i x m' H' hx hj => ?_) fun m' H' hj => ?_
  · exact List.Mem.tail _ (List.Mem.tail _ (List.Mem.tail _ (mem2 hm)))
  · intro i m' H' hj; refine (hJ1 _ _ _).mp hj _ fun _ _ _ ee1 => ?_; subst ee1;
    exact List.Mem.tail _ (List.Mem.tail _ (List.Mem.tail _ (mem2 hm)))
  · refine (hJ1 _ _ _).mp hj _ fun hv lv ee1 ee2 => ?_
    subst ee1; subst ee2
    have hi : i < hs.length := by have := (List.getElem?_eq_some_iff.mp hx).1; rwa [List.length_map] at this
    rw [List.getElem?_map, List.getElem?_eq_getElem hi, Option.map_some, Option.some.injEq] at hx
    subst hx
    obtain ⟨p0, p1, p2, s, mm, e, hp, o1, o2, o3, o4, o5, o6⟩ := windOk_is (okw _ (List.getElem_mem hi))
    have es : ((hs.take (i + 1)).map fun n => AV.int (hueS n)) = ((hs.take i).map fun n => AV.int (hueS n)) ++ [.int (Float64.truncOf s mm e)] := by
      rw [List.take_succ_eq_append_getElem hi, List.map_append, List.map_singleton, o6]
    clear o6
    generalize hs[i] = nn at hp o1 o2 o3 ⊢
    have hlen : ((hs.take i).map fun n => AV.int (hueS n)).length ≤ 1000 := by rw [List.length_map, List.length_take]; lia
    generalize ((hs.take i).map fun n => AV.int (hueS n)) = us at hlen es ⊢
    repeat wtm_at "n"
    refine EV.callK K.f_hsv ?_
    repeat wtm_at "n"
    refine ⟨rfl, ?_⟩
    repeat wtm_at "n"
    refine OP.divi (by decide) o1 ?_
    repeat wtm_at "n"
    refine K_hsvF K (R.deeper env) o2 o3 fun r => ?_
    rw [show Float64.ofFrac (decide (nn < 0) != decide ((3 : Int) < 0)) nn.natAbs (3 : Int).natAbs = hueF nn from rfl, hp]
    simp only [List.map_cons, List.map_nil]
    repeat wtm_at "n"
    refine EV.append ?_
    repeat wtm_at "n"
    refine ⟨_, _, rfl, by wtm_at "m", ?_⟩
    repeat wtm_at "n"
    refine EV.callK K.f_rgb ?_
    repeat wtm_at "n"
    refine ⟨rfl, ?_⟩
    repeat wtm_at "n"
    refine SUB.tup (by wtm_at "m") (j := 0) (x := .flt p0) (by rfl) (by rfl) ?_
    repeat wtm_at "n"
    refine SUB.tup (by wtm_at "m") (j := 1) (x := .flt p1) (by rfl) (by rfl) ?_
    repeat wtm_at "n"
    refine SUB.tup (by wtm_at "m") (j := 2) (x := .flt p2) (by rfl) (by rfl) ?_
    repeat wtm_at "n"
    refine K_rgb K (R.deeper env) .flt o4 fun t s v => ?_
    repeat wtm_at "n"
    refine SUB.tup (by wtm_at "m") (j := 0) (x := .flt (rgbH (.flt p0) (.flt p1) (.flt p2))) (by rfl) (by rfl) ?_
    repeat wtm_at "n"
    refine OP.mulfi (by decide +kernel) ?_
    repeat wtm_at "n"
    refine OP.addf ?_
    repeat wtm_at "n"
    refine CB.intf o5 ?_
    repeat wtm_at "n"
    refine ⟨_, _, by wtm_at "a", hlen, ?_⟩
    rw [← es]
    refine EB.sub (H' := (b, .list ((hs.take (i + 1)).map fun n => .int (hueS n))) :: (c, .cell (.ref b)) :: (L, .ns m) :: (T ++ (U ++ H₀))) (by wtm_at "sub") ?_
    exact EB.nil ((hJ1 _ _ _).mpr fun _ kk => kk _ _ rfl rfl)
  · refine (hJ1 _ _ _).mp hj _ fun hv lv ee1 ee2 => ?_
    subst ee1; subst ee2
    rw [List.length_map, List.take_length]
    refine EB.sub (H' := T ++ (U ++ ((b, .list (hs.map fun n => .int (hueS n))) :: (c, .cell (.ref b)) :: (L, .ns m) :: H₀))) ?_ ?_
    · exact Sub.trans Sub.in2 (Sub.cons (Sub.trans Sub.in2 (Sub.cons Sub.in2)))
    have m0 : (b, AO.list (hs.map fun n => .int (hueS n))) ∈ T ++ (U ++ ((b, .list (hs.map fun n => .int (hueS n))) :: (c, .cell (.ref b)) :: (L, .ns m) :: H₀)) := mem2 (by wtm_at "m")
    have m1 : (c, AO.cell (.ref b)) ∈ T ++ (U ++ ((b, .list (hs.map fun n => .int (hueS n))) :: (c, .cell (.ref b)) :: (L, .ns m) :: H₀)) := mem2 (by wtm_at "m")
    refine EB.ret ?_
    repeat wtm_at "n"
    refine EV.listComp (snames := nm_winds_c) (names' := [(".0", .local), ("k", .local), ("int_divmod", .globalImplicit), ("hues", .cell)]) (cls := [("hues", c)]) (locs := [".0", "k"]) E (compSt1 rfl rfl rfl (by decide +kernel) (by simp only [List.map_cons, List.map_nil]; decide +kernel) ?_) ?_
    · intro q hq
      simp only [List.mem_cons, List.mem_nil_iff, or_false] at hq
      subst hq
      exact ⟨by wtm_at "a", by wtm_at "a", by show (Str.ofString "hues", NameKind.free) ∈ _; wtm_at "m"⟩
    repeat wtm_at "n"
    refine CB.lenList m0 (by rw [List.length_map]; lia) ?_
    repeat wtm_at "n"
    refine CB.range1 fun r => ?_
    rw [List.length_map]
    have hgap : ∀ i, i < hs.length → ∃ j, seqIndex? ((i : Int) - 1) hs.length = some j ∧ (hs.map hueS)[j]? = some (if i = 0 then (hs.map hueS).getLastD 0 else (hs.map hueS).getD (i - 1) 0) := by
      intro i hi
      by_cases h0 : i = 0
      · subst h0
        refine ⟨hs.length - 1, ?_, ?_⟩
        · exact seqIdx_neg (by omega)
        · rw [if_pos rfl, List.getLastD_eq_getLast?, List.getLast?_eq_getElem?, List.length_map]
          have : hs.length - 1 < (hs.map hueS).length := by rw [List.length_map]; omega
          rw [List.getElem?_eq_getElem this]; rfl
      · refine ⟨i - 1, ?_, ?_⟩
        · rw [show (i : Int) - 1 = ((i - 1 : Nat) : Int) by lia]; exact seqIdx_nat (by omega)
        · rw [if_neg h0, List.getD_eq_getElem?_getD]
          have : i - 1 < (hs.map hueS).length := by rw [List.length_map]; omega
          rw [List.getElem?_eq_getElem this]; rfl
    generalize hHR : (b, AO.list (hs.map fun n => .int (hueS n))) :: (c, AO.cell (.ref b)) :: (L, AO.ns m) :: H₀ = HR at m0 m1 ⊢
    refine ⟨rangeL 0 1 hs.length, fun _ => True, ITERS.range hh (List.Mem.tail _ (List.Mem.head _)) (small01 (by lia)) (size01 _), by rw [rangeL_len]; lia, fun cenv cs hc E' =>
      ⟨fun i ys H' => ys = ((List.range i).map fun k => AV.int (idS (gapAt (hs.map hueS) k) 3).2) ∧ ∃ T' U', TabI T' ∧ TabD U' ∧ H' = (r, .rng 0 hs.length 1) :: (T' ++ (U' ++ HR)), ?_, fun _ _ _ _ => trivial, fun i x ys H' hx hj => ?_, fun ys H' hj a' => ?_⟩⟩
    · have : cs = [] := List.eq_nil_of_length_eq_zero hc
      subst this
      exact ⟨rfl, T, U, hT, hU, rfl⟩
    · obtain ⟨rfl, T', U', hT', hU', rfl⟩ := hj
      obtain ⟨hi, rfl⟩ := rangeL_get hx
      rw [show (0 : Int) + ↑i * 1 = ↑i by lia]
      have n0 : (b, AO.list (hs.map fun n => .int (hueS n))) ∈ (r, AO.rng 0 hs.length 1) :: (T' ++ (U' ++ HR)) := List.Mem.tail _ (mem2 (by rw [← hHR]; wtm_at "m"))
      have n1 : (c, AO.cell (.ref b)) ∈ (r, AO.rng 0 hs.length 1) :: (T' ++ (U' ++ HR)) := List.Mem.tail _ (mem2 (by rw [← hHR]; wtm_at "m"))
      have : cs = [] := List.eq_nil_of_length_eq_zero hc
      subst this
      replace E' : EnvOk cenv [(".0", .local), ("k", .local), ("int_divmod", .globalImplicit), ("hues", .cell)] [("hues", c)] := E'
      show ASG C (A.deeper env) _ _ cenv ([(".0", .undef), ("k", .undef)] : Loc) _ _
      obtain ⟨j, hj1, hj2⟩ := hgap i hi
      have emap : (hs.map fun n => AV.int (hueS n)) = (hs.map hueS).map .int := by rw [List.map_map]; rfl
      repeat wtm_at "n"
      refine IFS.nil ?_
      refine ifT rfl ?_
      repeat wtm_at "n"
      refine EV.callK K.f_int_divmod ?_
      repeat wtm_at "n"
      refine ⟨rfl, ?_⟩
      repeat wtm_at "n"
      refine SUB.list n0 (j := i) (x := .int ((hs.map hueS).getD i 0)) ?_ ?_ ?_
      · rw [List.length_map]; exact seqIdx_nat hi
      · rw [emap, List.getElem?_map, List.getD_eq_getElem?_getD, List.getElem?_eq_getElem (by rw [List.length_map]; exact hi)]; rfl
      repeat wtm_at "n"
      refine SUB.list n0 (j := j) (x := .int (if i = 0 then (hs.map hueS).getLastD 0 else (hs.map hueS).getD (i - 1) 0)) ?_ ?_ ?_
      · rw [List.length_map]; exact hj1
      · rw [emap, List.getElem?_map, hj2]; rfl
      repeat wtm_at "n"
      refine K_id K (R.deeper env) (T := T') (U := U') (H₀ := (r, .rng 0 hs.length 1) :: HR) hT' hU' Sub.in2 (okd i hi) fun t T2 U2 hT2 hU2 => ?_
      repeat wtm_at "n"
      refine SUB.tup (by wtm_at "m") (j := 1) (x := .int (idS (gapAt (hs.map hueS) i) 3).2) (by rfl) (by rfl) ?_
      refine ⟨(r, .rng 0 hs.length 1) :: (T2 ++ (U2 ++ HR)), ?_, ?_, T2, U2, hT2, hU2, rfl⟩
      · exact Sub.trans (Sub.fade rfl) (Sub.cons (Sub.drop Sub.out2))
      · rw [List.range_succ, List.map_append]; rfl
    · obtain ⟨rfl, T', U', hT', hU', rfl⟩ := hj
      refine ⟨_, Sub.refl, ?_⟩
      rw [rangeL_len]
      repeat wtm_at "n"
      refine CB.sum (ns := (List.range hs.length).map fun k => (idS (gapAt (hs.map hueS) k) 3).2) hh ?_ ?_
      · rw [List.map_map]; exact List.Mem.head _
      refine ⟨T' ++ (U' ++ H₀), ?_, h T' U' hT' hU'⟩
      subst hHR
      have o : ∀ {p : Addr × AO} {X : HS}, Sub (T' ++ (U' ++ X)) (T' ++ (U' ++ p :: X)) := fun {p X} => Sub.trans Sub.drop1 Sub.out2
      exact Sub.drop (Sub.drop (Sub.trans Sub.out2 (Sub.trans o o)))
end

/- _law_best -/
noncomputable def insI (a : Int) : List Int → List Int
  | [] => [a]
  | b :: l => if a ≤ b then a :: b :: l else b :: insI a l
noncomputable def srt : List Int → List Int
  | [] => []
  | a :: l => insI a (srt l)
theorem insI_perm (a : Int) : ∀ l, (insI a l).Perm (a :: l)
  | [] => .refl _
  | b :: l => by
    rw [insI]; split
    · exact .refl _
    · exact ((insI_perm a l).cons b).trans (.swap ..)
set_option tactic.hygienic true in
theorem insI_pw (a : Int) : ∀ l, l.Pairwise (· ≤ ·) → (insI a l).Pairwise (· ≤ ·)
  | [], _ => by simp [insI]
  | b :: l, h => by
    rw [List.pairwise_cons] at h
    rw [insI]; split
    · rename_i hab
      rw [List.pairwise_cons]
      refine ⟨fun x hx => ?_, List.pairwise_cons.mpr h⟩
      rcases List.mem_cons.mp hx with rfl | hx
      · exact hab
      · exact Int.le_trans hab (h.1 x hx)
    · rename_i hab
      rw [List.pairwise_cons]
      refine ⟨fun x hx => ?_, insI_pw a l h.2⟩
      rcases List.mem_cons.mp ((insI_perm a l).mem_iff.mp hx) with rfl | hx
      · lia
      · exact h.1 x hx
theorem srt_perm : ∀ l, (srt l).Perm l
  | [] => .refl _
  | a :: l => (insI_perm a _).trans ((srt_perm l).cons a)
theorem srt_pw : ∀ l, (srt l).Pairwise (· ≤ ·)
  | [] => .nil
  | a :: l => insI_pw a _ (srt_pw l)
theorem srt_is {l l' : List Int} (h1 : l'.Perm l) (h2 : l'.Pairwise (· ≤ ·)) : l' = srt l :=
  List.Perm.eq_of_pairwise (fun a b _ _ h h' => Int.le_antisymm h h') h2 (srt_pw l) (h1.trans (srt_perm l).symm)
noncomputable def absI (a : Int) : Int := if a < 0 then -a else a
noncomputable def costS (apart : List Int) (turn : Int) : Int := (apart.map fun gap => absI (gap - 6 * turn)).sum.fdiv 2
noncomputable def medS (apart : List Int) : Int := (srt apart).getD (apart.length / 2) 0
noncomputable def nearS (apart : List Int) : List Int := if (idS (medS apart) 6).2 = 0 then [(idS (medS apart) 6).1] else [(idS (medS apart) 6).1, (idS (medS apart) 6).1 + 1]
noncomputable def pairsS (apart : List Int) : List (Int × Int) := (nearS apart).map fun t => (costS apart t, t)
noncomputable def bestS (apart : List Int) : Int × Int := (pairsS apart).getD (bestAt (pairsS apart) ((nearS apart).length - 1)) (0, 0)
theorem nearS_len (apart : List Int) : 1 ≤ (nearS apart).length ∧ (nearS apart).length ≤ 2 := by unfold nearS; split <;> simp
theorem bestAt_lt {ps : List (Int × Int)} : ∀ j, bestAt ps j ≤ j
  | 0 => Nat.le_refl _
  | j + 1 => by
    show argBest _ (j + 1) ≤ _
    rw [argBest]
    split
    · exact Nat.le_refl _
    · exact Nat.le_succ_of_le (bestAt_lt (ps := ps) j)
section
variable {C : Cx} {A : Around} {L : Addr} {m : Loc} {H H₀ : HS} {Q : AV → HS → Prop}
theorem K_best (K : KX C) {k : Nat} (R : Rm A (k + 7)) {T U : HS} (hT : TabI T) (hU : TabD U) {a : Addr} {apart : List Int} (hsub : Sub (T ++ (U ++ H₀)) H) (hm : (a, AO.list (apart.map .int)) ∈ H₀) (h1 : 1 ≤ apart.length) (h2 : apart.length ≤ 10) (ok : idOk (medS apart) 6)
    (h : ∀ t T' U', TabI T' → TabD U' → Q (.ref t) ((t, .tup [.int (bestS apart).1, .int (bestS apart).2]) :: (T' ++ (U' ++ H₀)))) : OPL C A (fun Vs => call (.ref 303) Vs) [.ref a] L m H Q := by
  refine OPL.sub hsub ?_
  refine FnK.call K.f_best K.G R ["turns", "rest", "near"] rfl (by decide +kernel) fun env cs hc E => ?_
  obtain ⟨c, rfl⟩ : ∃ c, cs = [c] := by
    rcases cs with _ | ⟨x, _ | ⟨y, r⟩⟩ <;> first | exact ⟨_, rfl⟩ | (exact absurd hc (by simp [cellNames]))
  replace E : EnvOk env nm_best [("apart", c)] := E
  show BNDA C A.in1 env [("apart", .ref a)] [("turns", .undef), ("rest", .undef), ("near", .undef)] ((c, .cell .undef) :: (L, .ns m) :: (T ++ (U ++ H₀))) _
  simp only [BNDA]
  refine STN.cell' E (by wtm_at "a") (by wtm_at "a") (by wtm_at "a") ?_
  conv => arg 3; whnf
  have hh : (A.deeper env).handled = none := R.handled
  have ma : (a, AO.list (apart.map .int)) ∈ T ++ (U ++ H₀) := mem2 hm
  have hmed : ∀ ns' : List Int, ns'.Perm apart → ns'.Pairwise (· ≤ ·) → ns' = srt apart := fun ns' x y => srt_is x y
  refine EB.assignTup ?_
  refine EV.callK K.f_int_divmod ?_
  repeat wtm_at "n"
  refine ⟨rfl, ?_⟩
  repeat wtm_at "n"
  refine CB.sorted (ns := apart) (by wtm_at "m") (by lia) fun ns' b x y => ?_
  obtain rfl := hmed ns' x y
  repeat wtm_at "n"
  refine CB.lenList (by wtm_at "m") (by rw [List.length_map]; lia) ?_
  rw [List.length_map]
  repeat wtm_at "n"
  refine OP.fdiv (by decide) (by decide) ?_
  rw [show ((apart.length : Int)).fdiv 2 = ((apart.length / 2 : Nat) : Int) by rw [Int.fdiv_eq_ediv_of_nonneg _ (by decide)]; rfl]
  repeat wtm_at "n"
  have hl : (srt apart).length = apart.length := (srt_perm apart).length_eq
  refine SUB.list (by wtm_at "m") (j := apart.length / 2) (x := .int (medS apart)) ?_ ?_ ?_
  · rw [List.length_map, hl]
    exact seqIdx_nat (by lia)
  · rw [List.getElem?_map, medS, List.getD_eq_getElem?_getD, List.getElem?_eq_getElem (by lia)]; rfl
  repeat wtm_at "n"
  refine K_id K (R.deeper env) (T := T) (U := U) (H₀ := (c, .cell (.ref a)) :: (L, .ns m) :: H₀) hT hU ?_ ok fun t T' U' hT' hU' => ?_
  · exact Sub.drop (Sub.trans Sub.in2 (Sub.cons Sub.in2))
  refine ASG.pair hh (by wtm_at "m") ?_
  wtm_at "n"
  wtm_at "n"
  have fin : ∀ nr, EB C (A.deeper env) ((bodyOf 31).drop 2) env ([("turns", .int (idS (medS apart) 6).1), ("rest", .int (idS (medS apart) 6).2), ("near", .ref nr)] : Loc) ((nr, .list ((nearS apart).map .int)) :: (c, .cell (.ref a)) :: (L, .ns m) :: (T' ++ (U' ++ H₀))) (RET L m Q) := by
    intro nr
    conv => arg 3; whnf
    have mn : ∀ (i : Nat), i < (nearS apart).length → (nearS apart)[i]? = some ((nearS apart).getD i 0) := fun i hi => by rw [List.getD_eq_getElem?_getD, List.getElem?_eq_getElem hi]; rfl
    obtain ⟨g1, g2⟩ := nearS_len apart
    have gp : ∀ (i : Nat), i < (nearS apart).length → (pairsS apart)[i]? = some (costS apart ((nearS apart).getD i 0), (nearS apart).getD i 0) := fun i hi => by
      unfold pairsS; rw [List.getElem?_map, mn i hi]; rfl
    have ma' : (a, AO.list (apart.map .int)) ∈ T' ++ (U' ++ H₀) := mem2 hm
    refine EB.ret ?_
    repeat wtm_at "n"
    refine EV.listComp (snames := nm_best_c) (names' := [(".0", .local), ("turn", .cell), ("sum", .globalImplicit), ("apart", .cell)]) (cls := [("apart", c)]) (locs := [".0"]) E (compSt1 rfl rfl rfl (by decide +kernel) (by simp only [List.map_cons, List.map_nil]; decide +kernel) ?_) ?_
    · intro q hq
      simp only [List.mem_cons, List.mem_nil_iff, or_false] at hq
      subst hq
      exact ⟨by wtm_at "a", by wtm_at "a", by show (Str.ofString "apart", NameKind.free) ∈ _; wtm_at "m"⟩
    repeat wtm_at "n"
    refine ⟨(nearS apart).map .int, _, ITERS.list hh (List.Mem.tail _ (List.Mem.head _)), by rw [List.length_map]; lia, fun cenv cs hc E' => ?_⟩
    obtain ⟨ct, rfl⟩ : ∃ ct, cs = [ct] := by
      rcases cs with _ | ⟨x, _ | ⟨y, r⟩⟩ <;> first | exact ⟨_, rfl⟩ | (exact absurd hc (by simp [cellNames]))
    replace E' : EnvOk cenv [(".0", .local), ("turn", .cell), ("sum", .globalImplicit), ("apart", .cell)] [("turn", ct), ("apart", c)] := E'
    refine ⟨fun i ys H' => ∃ (rs : List Addr) (X : HS) (u : AV), ys = rs.map .ref ∧ rs.length = i ∧ (∀ (j : Nat) (x : Addr) (p : Int × Int), rs[j]? = some x → (pairsS apart)[j]? = some p → (x, AO.tup [.int p.1, .int p.2]) ∈ X) ∧
      H' = (ct, .cell u) :: (nr, .list ((nearS apart).map .int)) :: (c, .cell (.ref a)) :: (L, .ns m) :: (X ++ (T' ++ (U' ++ H₀))), ?_, ?_, fun i x ys H' hx hj => ?_, fun ys H' hj a' => ?_⟩
    · exact ⟨[], [], .undef, rfl, rfl, (fun j x p e => by cases e), rfl⟩
    · rintro i ys H' ⟨rs, X, u, -, -, -, rfl⟩
      exact List.Mem.tail _ (List.Mem.tail _ (List.Mem.head _))
    · obtain ⟨rs, X, u, rfl, hi, hX, rfl⟩ := hj
      have hi' : i < (nearS apart).length := by have := (List.getElem?_eq_some_iff.mp hx).1; rwa [List.length_map] at this
      rw [List.getElem?_map, mn i hi', Option.map_some, Option.some.injEq] at hx
      subst hx
      have gpi := gp i hi'
      generalize (nearS apart).getD i 0 = turn at gpi ⊢
      show ASG C (A.deeper env) _ _ cenv ([(".0", .undef)] : Loc) _ _
      have ma2 : (a, AO.list (apart.map .int)) ∈ X ++ (T' ++ (U' ++ H₀)) := List.mem_append_right _ ma'
      refine ASG.cell' E' (by wtm_at "a") (by wtm_at "a") (by wtm_at "a") ?_
      refine IFS.nil ?_
      refine ifT rfl ?_
      repeat wtm_at "n"
      refine EV.listComp (snames := nm_best_c2) (names' := [(".0", .local), ("gap", .local), ("abs", .globalImplicit), ("turn", .cell)]) (cls := [("turn", ct)]) (locs := [".0", "gap"]) E' (compSt1 rfl rfl rfl (by decide +kernel) (by simp only [List.map_cons, List.map_nil]; decide +kernel) ?_) ?_
      · intro q hq
        simp only [List.mem_cons, List.mem_nil_iff, or_false] at hq
        subst hq
        exact ⟨by wtm_at "a", by wtm_at "a", by show (Str.ofString "turn", NameKind.free) ∈ _; wtm_at "m"⟩
      repeat wtm_at "n"
      have ma3 : (a, AO.list (apart.map .int)) ∈ (ct, AO.cell (.int turn)) :: (nr, .list ((nearS apart).map .int)) :: (c, .cell (.ref a)) :: (L, .ns m) :: (X ++ (T' ++ (U' ++ H₀))) := by wtm_at "m"
      refine LCQ.pure (xs := apart.map .int) ((apart.map fun gap => absI (gap - 6 * turn)).map .int) (ITERS.list hh (List.Mem.tail _ ma3)) (fun cenv => List.Mem.tail _ ma3) (by simp) (by rw [List.length_map]; lia) rfl (fun cenv2 E2 j x y hx hy => ?_) fun c2 => ?_
      · rw [List.map_map] at hy
        rw [List.getElem?_map, Option.map_eq_some_iff] at hx hy
        obtain ⟨n1, e1, rfl⟩ := hx
        obtain ⟨n2, e2, rfl⟩ := hy
        rw [e1] at e2; cases e2
        simp only [List.map_cons, List.map_nil]
        repeat wtm_at "n"
        refine OP.mul (by decide) ?_
        repeat wtm_at "n"
        refine CB.abs ?_
        exact ⟨rfl, rfl, Sub.refl⟩
      · repeat wtm_at "n"
        refine CB.sum (ns := apart.map fun gap => absI (gap - 6 * turn)) hh (List.Mem.head _) ?_
        repeat wtm_at "n"
        refine OP.fdiv (by decide) (by decide) ?_
        repeat wtm_at "n"
        refine ⟨Nat.le_of_ble_eq_true rfl, fun t => ?_⟩
        refine ⟨(ct, .cell (.int turn)) :: (nr, .list ((nearS apart).map .int)) :: (c, .cell (.ref a)) :: (L, .ns m) :: (((t, .tup [.int (costS apart turn), .int turn]) :: X) ++ (T' ++ (U' ++ H₀))), ?_, rs ++ [t], (t, .tup [.int (costS apart turn), .int turn]) :: X, .int turn, ?_, ?_, ?_, rfl⟩
        · refine Sub.cons ?_
          refine Sub.trans (H' := (t, .tup [.int (costS apart turn), .int turn]) :: (ct, .cell (.int turn)) :: (nr, .list ((nearS apart).map .int)) :: (c, .cell (.ref a)) :: (L, .ns m) :: (X ++ (T' ++ (U' ++ H₀)))) ?_ (Sub.cons Sub.drop1)
          exact Sub.of_perm (List.perm_middle (a := (t, AO.tup [.int (costS apart turn), .int turn])) (l₁ := [(ct, AO.cell (.int turn)), (nr, .list ((nearS apart).map .int)), (c, .cell (.ref a)), (L, .ns m)]))
        · rw [List.map_append]; rfl
        · rw [List.length_append, hi]; rfl
        · intro j x p hx hp
          rcases Nat.lt_or_ge j rs.length with hj | hj
          · rw [List.getElem?_append_left hj] at hx
            exact List.Mem.tail _ (hX j x p hx hp)
          · rw [List.getElem?_append_right hj] at hx
            have hj0 : j - rs.length = 0 := by
              have := (List.getElem?_eq_some_iff.mp hx).1
              simp at this; omega
            rw [hj0] at hx
            have hjl : j = i := by lia
            subst hjl
            cases hx
            rw [gpi] at hp
            cases hp
            exact List.Mem.head _
    · obtain ⟨rs, X, u, rfl, hi, hX, rfl⟩ := hj
      refine ⟨_, Sub.refl, ?_⟩
      rw [List.length_map] at hi
      repeat wtm_at "n"
      refine CB.minPairs (rs := rs) (ps := pairsS apart) hh (by have := (R.deeper env).units; show (A.deeper env).units + 1 < 9900; lia) (by wtm_at "m") (by unfold pairsS; rw [List.length_map, hi]) (by lia) (fun j x p h1 h2 => ?_) fun x hx => ?_
      · have := hX j x p h1 h2
        exact List.Mem.tail _ (List.Mem.tail _ (List.Mem.tail _ (List.Mem.tail _ (List.Mem.tail _ (List.mem_append_left _ this)))))
      have hb : bestAt (pairsS apart) (rs.length - 1) < (nearS apart).length := by have := bestAt_lt (ps := pairsS apart) (rs.length - 1); lia
      have := hX _ x _ hx (gp _ hb)
      have hbest : bestS apart = (costS apart ((nearS apart).getD (bestAt (pairsS apart) (rs.length - 1)) 0), (nearS apart).getD (bestAt (pairsS apart) (rs.length - 1)) 0) := by
        unfold bestS
        rw [← hi, List.getD_eq_getElem?_getD, gp _ hb]; rfl
      rw [← hbest] at this
      obtain ⟨X1, X2, rfl⟩ := List.append_of_mem this
      refine ⟨_, ?_, h x T' U' hT' hU'⟩
      refine Sub.drop (Sub.drop (Sub.drop (Sub.drop (Sub.cons (Sub.of_sublist ?_)))))
      rw [List.append_assoc]
      exact (List.Sublist.cons_cons _ (List.sublist_append_right X2 _)).trans (List.sublist_append_right X1 _)
  refine EB.sub (H' := (c, .cell (.ref a)) :: (L, .ns m) :: (T' ++ (U' ++ H₀))) ?_ ?_
  · exact Sub.drop (Sub.trans (Sub.cons Sub.out2) Sub.out2)
  repeat wtm_at "n"
  unfold nearS at fin
  by_cases hr : (idS (medS apart) 6).2 = 0
  · rw [if_pos hr] at fin
    refine ifT (beq_iff_eq.mpr hr) ?_
    repeat wtm_at "n"
    refine ⟨Nat.le_of_ble_eq_true rfl, fun nr => ?_⟩
    wtm_at "n"
    exact fin nr
  · rw [if_neg hr] at fin
    refine ifF (beq_eq_false_iff_ne.mpr hr) ?_
    repeat wtm_at "n"
    refine ⟨Nat.le_of_ble_eq_true rfl, fun nr => ?_⟩
    wtm_at "n"
    exact fin nr
end

/- quotedata; the methods of the class -/
section
variable {C : Cx} {A : Around} {L : Addr} {m : Loc} {H : HS} {Q : AV → HS → Prop} {F : Frag}
theorem dots_len (k : Nat) : (dots k).length = k := by simp [dots]
theorem K_quote (K : KX C) (Kh : KH C F) {d : Nat} (R : Rm A (d + 1)) {k : Nat} (h1 : 8 ≤ k) (h2 : k < 32) (h : Q (.str (ofL (dots (k + 1)))) H) : OPL C A (fun Vs => call (.ref 111) Vs) [.str (ofL (dots k))] L m H Q := by
  have e1 := re1_all ⟨k - 8, by omega⟩
  have e2 := re2_all ⟨k - 8, by omega⟩
  simp only [show k - 8 + 8 = k by omega] at e1 e2
  refine FnK.call K.f_quote K.G R ["data"] rfl (by decide +kernel) fun env cs hc E => ?_
  replace hc : cs = [] := List.eq_nil_of_length_eq_zero hc
  subst hc
  simp only [List.zip_cons_cons, List.zip_nil_left, List.map_cons, List.map_nil, newCells, List.nil_append]
  simp only [BNDA]
  refine STN.loc E (by wtm_at "a") (by wtm_at "a") ?_
  conv => arg 3; whnf
  have hh : (A.deeper env).handled = none := R.handled
  refine EB.ret ?_
  refine EV.methP "re.Pattern.sub" slot_re_sub type_re_sub ?_
  repeat wtm_at "n"
  refine ⟨⟨_, _, rfl, Kh.p1⟩, ?_⟩
  wtm_at "n"
  wtm_at "n"
  wtm_at "n"
  refine EV.methP "re.Pattern.sub" slot_re_sub type_re_sub ?_
  repeat wtm_at "n"
  refine ⟨⟨_, _, rfl, Kh.p2⟩, ?_⟩
  repeat wtm_at "n"
  refine CB.sub0 (rl := [13, 10]) Kh.p2 (by rw [dots_len]; lia) (by rw [dots_len]; lia) (by decide) e2 ?_
  repeat wtm_at "n"
  rw [show Str.ofString ".." = ofL [46, 46] from by decide +kernel]
  refine CB.sub1 (rl := [46, 46]) Kh.p1 (by rw [dots_len]; lia) (by rw [dots_len]; lia) (by decide) (by decide) e1.1 e1.2 ?_
  rw [show [46, 46] ++ (dots k).drop 1 = dots (k + 1) by
    unfold dots; rw [List.drop_replicate]
    obtain ⟨j, rfl⟩ : ∃ j, k = j + 1 := ⟨k - 1, by lia⟩
    rfl]
  exact ⟨_, by wtm_at "sub", h⟩
end

/- methods of the class: _convert_string_type, __len__, get -/
noncomputable def tups (ts : List Addr) (es : List (Nat × List Nat)) : HS := (ts.zip es).map fun p => (p.1, AO.tup [.str (ofL [p.2.1]), .str (ofL p.2.2)])
noncomputable def hT (C : Cx) (b dx : Addr) (tk : Tok) (l : Addr) (ts : List Addr) (es : List (Nat × List Nat)) : HS := (b, .raw (instObj 244 dx)) :: (dx, .raw (hdrD C.w tk l)) :: (l, .list (ts.map .ref)) :: tups ts es
noncomputable def HdrT (C : Cx) (b : Addr) (es : List (Nat × List Nat)) (T : HS) : Prop := ∃ dx tk l ts, ts.length = es.length ∧ T = hT C b dx tk l ts es
theorem tups_mem {ts : List Addr} {es : List (Nat × List Nat)} {i : Nat} {t : Addr} {e : Nat × List Nat} (h1 : ts[i]? = some t) (h2 : es[i]? = some e) : (t, AO.tup [.str (ofL [e.1]), .str (ofL e.2)]) ∈ tups ts es :=
  List.mem_map.mpr ⟨(t, e), List.mem_of_getElem? (i := i) (List.getElem?_zip_eq_some.mpr ⟨h1, h2⟩), rfl⟩
noncomputable def lettersL : List Nat := [97, 98, 99, 100, 101, 102, 65, 66, 67, 68, 69, 70]
noncomputable def lowC (c : Nat) : Nat := if c < 97 then c + 32 else c
noncomputable def swapC (c : Nat) : Nat := if c < 97 then c + 32 else c - 32
theorem low_is : ∀ c ∈ lettersL, Txt.lower (ofL [c]) = ofL [lowC c] := by decide +kernel
theorem swap_is : ∀ c ∈ lettersL, Txt.swapcase (ofL [c]) = ofL [swapC c] := by decide +kernel
theorem low_let : ∀ c ∈ lettersL, lowC c ∈ lettersL := by decide +kernel
theorem swap_let : ∀ c ∈ lettersL, swapC c ∈ lettersL ∧ lowC (swapC c) = lowC c := by decide +kernel
theorem one_short (c : Nat) : Builtin.Str.tooLong (ofL [c]).length = false := by rw [ofL_len]; exact (by decide +kernel : Builtin.Str.tooLong 1 = false)
section
variable {C : Cx} {A : Around} {L : Addr} {m : Loc} {H : HS} {Q : AV → HS → Prop} {F : Frag}
theorem K_conv (K : KX C) (Kh : KH C F) {d : Nat} (R : Rm A (d + 1)) {b : Addr} {x : Str} {bv : Bool} (hsz : x.cps.size ≤ 1000) (hf : reFind (if bv = true then codeN else codeV) x.cps.toList 0 = some none) (h : Q (.str x) H) :
    ∀ Vs Ks, All2 [.ref b, .str x] Vs → All2 [.bool bv] Ks → CK C A (.call (.ref 143) ⟨Vs, [Str.ofString "name"].zip Ks⟩) L m H Q := by
  refine FnG.call (as := [.ref b, .str x]) (ks := [.bool bv]) Kh.f_conv K.G R ["self", "value", "name", "regex"] rfl rfl rfl (by decide +kernel) fun env cs hc E => ?_
  replace hc : cs = [] := List.eq_nil_of_length_eq_zero hc
  subst hc
  simp only [List.cons_append, List.nil_append, List.append_nil, List.zip_cons_cons, List.zip_nil_left, List.map_cons, List.map_nil, newCells, List.nil_append]
  simp only [BNDA]
  refine STN.loc E (by wtm_at "a") (by wtm_at "a") (STN.loc E (by wtm_at "a") (by wtm_at "a") (STN.loc E (by wtm_at "a") (by wtm_at "a") ?_))
  conv => arg 3; whnf
  repeat wtm_at "n"
  refine CB.typeStr ?_
  repeat wtm_at "n"
  refine OP.isTy ?_
  repeat wtm_at "n"
  refine ifT rfl ?_
  cases bv
  · rw [if_neg (by decide)] at hf
    repeat wtm_at "n"
    refine ifF rfl ?_
    repeat wtm_at "n"
    refine ET.plain ?_
    refine EV.methP "re.Pattern.search" slot_re_search type_re_search ?_
    repeat wtm_at "n"
    refine ⟨⟨_, _, rfl, Kh.pv⟩, ?_⟩
    repeat wtm_at "n"
    refine CB.search Kh.pv hsz hf ?_
    refine TRU.none ?_
    refine ifF rfl ?_
    refine EB.nil ?_
    simp only [seqQ]
    repeat wtm_at "n"
    exact ⟨_, by wtm_at "sub", h⟩
  · rw [if_pos rfl] at hf
    repeat wtm_at "n"
    refine ifT rfl ?_
    repeat wtm_at "n"
    refine ET.plain ?_
    refine EV.methP "re.Pattern.search" slot_re_search type_re_search ?_
    repeat wtm_at "n"
    refine ⟨⟨_, _, rfl, Kh.pn⟩, ?_⟩
    repeat wtm_at "n"
    refine CB.search Kh.pn hsz hf ?_
    refine TRU.none ?_
    refine ifF rfl ?_
    refine EB.nil ?_
    simp only [seqQ]
    repeat wtm_at "n"
    exact ⟨_, by wtm_at "sub", h⟩
theorem K_hlen (K : KX C) (Kh : KH C F) {d : Nat} (R : Rm A (d + 1)) {b l : Addr} {xs : List AV} (x : HI C H b l) (hm : (l, AO.list xs) ∈ H) (hsz : xs.length ≤ 900) (h : Q (.int xs.length) H) :
    ∀ Vs, All2 [.ref b] Vs → CK C A (.call (.ref 150) ⟨Vs, []⟩) L m H Q := by
  intro Vs hV
  refine FnG.call (ks := []) Kh.f_len K.G R ["self"] rfl rfl rfl (by decide +kernel) (fun env cs hc E => ?_) Vs [] hV trivial
  replace hc : cs = [] := List.eq_nil_of_length_eq_zero hc
  subst hc
  simp only [List.cons_append, List.nil_append, List.append_nil, List.zip_cons_cons, List.zip_nil_left, List.map_cons, List.map_nil, newCells, List.nil_append]
  simp only [BNDA]
  refine STN.loc E (by wtm_at "a") (by wtm_at "a") ?_
  conv => arg 3; whnf
  repeat wtm_at "n"
  refine EV.attrH Kh.X Kh.f ?_
  repeat wtm_at "n"
  refine ⟨_, _, rfl, x.tail, ?_⟩
  repeat wtm_at "n"
  refine CB.lenList (by wtm_at "m") (by lia) ?_
  exact ⟨_, by wtm_at "sub", h⟩
end

/- get, setdefault -/
section
variable {C : Cx} {A : Around} {L : Addr} {m : Loc} {H : HS} {Q : AV → HS → Prop} {F : Frag}
theorem hT_hi {b dx : Addr} {tk : Tok} {l : Addr} {ts : List Addr} {es : List (Nat × List Nat)} (hin : ∀ p ∈ hT C b dx tk l ts es, p ∈ H) : HI C H b l := ⟨dx, tk, hin _ (.head _), hin _ (.tail _ (.head _))⟩
theorem hT_list {b dx : Addr} {tk : Tok} {l : Addr} {ts : List Addr} {es : List (Nat × List Nat)} (hin : ∀ p ∈ hT C b dx tk l ts es, p ∈ H) : (l, AO.list (ts.map .ref)) ∈ H := hin _ (.tail _ (.tail _ (.head _)))
theorem hT_tup {b dx : Addr} {tk : Tok} {l : Addr} {ts : List Addr} {es : List (Nat × List Nat)} (hin : ∀ p ∈ hT C b dx tk l ts es, p ∈ H) {i : Nat} {t : Addr} {e : Nat × List Nat} (h1 : ts[i]? = some t) (h2 : es[i]? = some e) : (t, AO.tup [.str (ofL [e.1]), .str (ofL e.2)]) ∈ H := hin _ (.tail _ (.tail _ (.tail _ (tups_mem h1 h2))))
theorem name_fine {c : Nat} (h : c ∈ lettersL) : (ofL [c]).cps.size ≤ 1000 ∧ reFind (if true = true then codeN else codeV) (ofL [c]).cps.toList 0 = some none :=
  ⟨by rw [show (ofL [c]).cps.size = 1 from rfl]; decide, by rw [if_pos rfl]; exact reN_all c h⟩
theorem K_hget (K : KX C) (Kh : KH C F) {d : Nat} (R : Rm A (d + 2)) {b dx : Addr} {tk : Tok} {l : Addr} {ts : List Addr} {es : List (Nat × List Nat)} {c : Nat} (hin : ∀ p ∈ hT C b dx tk l ts es, p ∈ H) (hlen : ts.length = es.length) (hsz : es.length ≤ 900)
    (hc : c ∈ lettersL) (hes : ∀ e ∈ es, e.1 ∈ lettersL ∧ lowC e.1 ≠ lowC c) (h : Q .none H) : ∀ Vs, All2 [.ref b, .str (ofL [c])] Vs → CK C A (.call (.ref 191) ⟨Vs, []⟩) L m H Q := by
  intro Vs hV
  refine FnG.call (ks := []) (ds := [.none]) Kh.f_get K.G R ["self", "name", "default", "k", "v"] rfl rfl rfl (by decide +kernel) (fun env cs hcs E => ?_) Vs [] hV trivial
  replace hcs : cs = [] := List.eq_nil_of_length_eq_zero hcs
  subst hcs
  simp only [List.cons_append, List.nil_append, List.zip_cons_cons, List.zip_nil_left, List.map_cons, List.map_nil, newCells, List.nil_append]
  simp only [BNDA]
  refine STN.loc E (by wtm_at "a") (by wtm_at "a") (STN.loc E (by wtm_at "a") (by wtm_at "a") (STN.loc E (by wtm_at "a") (by wtm_at "a") ?_))
  conv => arg 3; whnf
  have hh : (A.deeper env).handled = none := R.handled
  have x := (hT_hi hin).tail (p := (L, .ns m))
  have hl : (l, AO.list (ts.map .ref)) ∈ (L, AO.ns m) :: H := List.Mem.tail _ (hT_list hin)
  repeat wtm_at "n"
  refine EV.methHK (fa := 143) Kh.X Kh.f (by simp [mths]) ?_
  repeat wtm_at "n"
  refine ⟨_, _, rfl, x, ?_⟩
  wtm_at "n"
  refine EV.lower ?_
  repeat wtm_at "n"
  refine ⟨_, _, rfl, low_is c hc, one_short _, ?_⟩
  repeat wtm_at "n"
  refine K_conv (bv := true) K Kh (R.deeper env) (name_fine (low_let c hc)).1 (name_fine (low_let c hc)).2 ?_
  repeat wtm_at "n"
  refine EV.attrH Kh.X Kh.f ?_
  repeat wtm_at "n"
  refine ⟨_, _, rfl, x, ?_⟩
  refine forL (xs := ts.map .ref) (fun i m' H' => ∃ kv vv, m' = ([("self", .ref b), ("name", .str (ofL [lowC c])), ("default", .none), ("k", kv), ("v", vv)] : Loc) ∧ H' = (L, .ns m) :: H) hl hh ⟨_, _, rfl, rfl⟩ ?_ (fun i t m' H' ht hj => ?_) fun m' H' hj => ?_
  · rintro i m' H' ⟨_, _, _, rfl⟩; exact hl
  · obtain ⟨kv, vv, rfl, rfl⟩ := hj
    rw [List.getElem?_map, Option.map_eq_some_iff] at ht
    obtain ⟨t, ht, rfl⟩ := ht
    have hi : i < es.length := by have := (List.getElem?_eq_some_iff.mp ht).1; lia
    have he := hes _ (List.getElem_mem hi)
    have mt := hT_tup hin ht (List.getElem?_eq_getElem hi)
    generalize es[i] = e at he mt
    refine ASG.pair hh (List.Mem.tail _ mt) ?_
    repeat wtm_at "n"
    refine EV.lower ?_
    repeat wtm_at "n"
    refine ⟨_, _, rfl, low_is _ he.1, one_short _, ?_⟩
    repeat wtm_at "n"
    rw [ofL_beq, show ([lowC e.1] == [lowC c]) = false from beq_eq_false_iff_ne.mpr (fun q => he.2 (List.cons.inj q).1), if_neg (by decide)]
    exact EB.nil (EB.nil ⟨_, _, rfl, rfl⟩)
  · obtain ⟨kv, vv, rfl, rfl⟩ := hj
    repeat wtm_at "n"
    exact ⟨_, by wtm_at "sub", h⟩
end

/- setdefault, items, keys -/
section
variable {C : Cx} {A : Around} {L : Addr} {m : Loc} {H H₀ : HS} {Q : AV → HS → Prop} {F : Frag}
theorem CK.sub {H' : HS} {c : Code} (e : Sub H' H) (h : CK C A c L m H' Q) : CK C A c L m H Q := fun F s Qc E S k => h F s Qc E (Sub.cons e F _ _ S) k
theorem tups_snoc {t : Addr} {e : Nat × List Nat} {ts : List Addr} {es : List (Nat × List Nat)} (h : ts.length = es.length) : tups (ts ++ [t]) (es ++ [e]) = tups ts es ++ [(t, .tup [.str (ofL [e.1]), .str (ofL e.2)])] := by
  unfold tups; rw [List.zip_append h, List.map_append]; rfl
theorem row_fine {k c : Nat} (h1 : 8 ≤ k) (h2 : k < 32) (hc : c ∈ [114, 103, 98]) : (ofL (dots k ++ [c])).cps.size ≤ 1000 ∧ reFind (if false = true then codeN else codeV) (ofL (dots k ++ [c])).cps.toList 0 = some none := by
  refine ⟨?_, ?_⟩
  · rw [show (ofL (dots k ++ [c])).cps.size = (dots k ++ [c]).length from ofL_len _, List.length_append, dots_len]; show k + 1 ≤ 1000; lia
  · rw [if_neg (by decide)]
    have := reV_all ⟨k - 8, by omega⟩ c hc
    simp only [show k - 8 + 8 = k by omega] at this
    exact this
theorem K_setd (K : KX C) (Kh : KH C F) {d : Nat} (R : Rm A (d + 3)) {b dx : Addr} {tk : Tok} {l : Addr} {ts : List Addr} {es : List (Nat × List Nat)} {c k p : Nat} (hsub : Sub (hT C b dx tk l ts es ++ H₀) H) (hlen : ts.length = es.length) (hsz : es.length ≤ 900)
    (hc : c ∈ lettersL) (hes : ∀ e ∈ es, e.1 ∈ lettersL ∧ lowC e.1 ≠ lowC c) (h1 : 8 ≤ k) (h2 : k < 32) (hp : p ∈ [114, 103, 98])
    (h : ∀ t, Q (.str (ofL (dots k ++ [p]))) (hT C b dx tk l (ts ++ [t]) (es ++ [(c, dots k ++ [p])]) ++ H₀)) : ∀ Vs, All2 [.ref b, .str (ofL [c]), .str (ofL (dots k ++ [p]))] Vs → CK C A (.call (.ref 234) ⟨Vs, []⟩) L m H Q := by
  obtain ⟨r1, r2⟩ := row_fine h1 h2 hp
  generalize dots k ++ [p] = row at r1 r2 h
  intro Vs hV
  refine CK.sub hsub ?_
  refine FnG.call (ks := []) (ds := []) Kh.f_setd K.G R ["self", "name", "value", "result"] rfl rfl rfl (by decide +kernel) (fun env cs hcs E => ?_) Vs [] hV trivial
  replace hcs : cs = [] := List.eq_nil_of_length_eq_zero hcs
  subst hcs
  simp only [List.cons_append, List.nil_append, List.append_nil, List.zip_cons_cons, List.zip_nil_left, List.map_cons, List.map_nil, newCells, List.nil_append]
  simp only [BNDA]
  refine STN.loc E (by wtm_at "a") (by wtm_at "a") (STN.loc E (by wtm_at "a") (by wtm_at "a") (STN.loc E (by wtm_at "a") (by wtm_at "a") ?_))
  conv => arg 3; whnf
  have hh : (A.deeper env).handled = none := R.handled
  have hin : ∀ q ∈ hT C b dx tk l ts es, q ∈ (L, AO.ns m) :: (hT C b dx tk l ts es ++ H₀) := fun q hq => .tail _ (List.mem_append_left _ hq)
  repeat wtm_at "n"
  refine EV.methH (fa := 191) Kh.X Kh.f (by simp [mths]) ?_
  repeat wtm_at "n"
  refine ⟨_, _, rfl, hT_hi hin, ?_⟩
  repeat wtm_at "n"
  refine K_hget K Kh (R.deeper env) hin hlen hsz hc hes ?_
  repeat wtm_at "n"
  refine OP.isNone ?_
  repeat wtm_at "n"
  refine ifT rfl ?_
  refine EB.sub (H' := (L, .ns m) :: (b, .raw (instObj 244 dx)) :: (dx, .raw (hdrD C.w tk l)) :: (l, .list (ts.map .ref)) :: (tups ts es ++ H₀)) Sub.refl ?_
  have x : HI C ((L, .ns m) :: (b, .raw (instObj 244 dx)) :: (dx, .raw (hdrD C.w tk l)) :: (l, .list (ts.map .ref)) :: (tups ts es ++ H₀)) b l := ⟨dx, tk, by wtm_at "m", by wtm_at "m"⟩
  repeat wtm_at "n"
  refine EV.append ?_
  refine EV.attrH Kh.X Kh.f ?_
  repeat wtm_at "n"
  refine ⟨_, _, rfl, x, _, _, rfl, by wtm_at "m", ?_⟩
  wtm_at "n"
  wtm_at "n"
  refine EV.methHK (fa := 143) Kh.X Kh.f (by simp [mths]) ?_
  repeat wtm_at "n"
  refine ⟨_, _, rfl, x, ?_⟩
  repeat wtm_at "n"
  refine K_conv (bv := true) K Kh (R.deeper env) (name_fine hc).1 (name_fine hc).2 ?_
  wtm_at "n"
  refine EV.methHK (fa := 143) Kh.X Kh.f (by simp [mths]) ?_
  repeat wtm_at "n"
  refine ⟨_, _, rfl, x, ?_⟩
  repeat wtm_at "n"
  refine K_conv (bv := false) K Kh (R.deeper env) r1 r2 ?_
  repeat wtm_at "n"
  refine ⟨Nat.le_of_ble_eq_true rfl, fun t => ?_⟩
  refine ⟨_, _, by wtm_at "a", by rw [List.length_map]; lia, ?_⟩
  repeat wtm_at "n"
  simp only [seqQ]
  refine ⟨_, ?_, h t⟩
  unfold hT
  rw [tups_snoc hlen, List.map_append]
  refine Sub.of_perm ?_
  simp only [List.cons_append, List.append_assoc, List.nil_append, List.map_cons, List.map_nil]
  refine .trans ?_ (.swap ..)
  refine List.Perm.cons _ ?_
  exact (List.perm_middle (a := (t, AO.tup [.str (ofL [c]), .str (ofL row)])) (l₁ := [(b, AO.raw (instObj 244 dx)), (dx, .raw (hdrD C.w tk l)), (l, .list (ts.map .ref ++ [.ref t]))] ++ tups ts es) (l₂ := H₀))
end

/- items, keys, __delitem__ -/
section
variable {C : Cx} {A : Around} {L : Addr} {m : Loc} {H H₀ : HS} {Q : AV → HS → Prop} {F : Frag}
theorem K_items (K : KX C) (Kh : KH C F) {d : Nat} (R : Rm A (d + 1)) {b l : Addr} {xs : List AV} (x : HI C H b l) (hm : (l, AO.list xs) ∈ H) (hsz : xs.length ≤ 900) (h : ∀ w, Q (.ref w) ((w, .list xs) :: H)) :
    ∀ Vs, All2 [.ref b] Vs → CK C A (.call (.ref 208) ⟨Vs, []⟩) L m H Q := by
  intro Vs hV
  refine FnG.call (ks := []) Kh.f_items K.G R ["self"] rfl rfl rfl (by decide +kernel) (fun env cs hc E => ?_) Vs [] hV trivial
  replace hc : cs = [] := List.eq_nil_of_length_eq_zero hc
  subst hc
  simp only [List.nil_append, List.append_nil, List.zip_cons_cons, List.zip_nil_left, List.map_cons, List.map_nil, newCells]
  simp only [BNDA]
  refine STN.loc E (by wtm_at "a") (by wtm_at "a") ?_
  conv => arg 3; whnf
  refine EB.ret ?_
  refine EV.sliceAll ?_
  refine EV.attrH Kh.X Kh.f ?_
  repeat wtm_at "n"
  exact ⟨_, _, rfl, x.tail, _, _, rfl, .tail _ hm, by lia, fun w => ⟨_, by wtm_at "sub", h w⟩⟩
theorem K_keys (K : KX C) (Kh : KH C F) {d : Nat} (R : Rm A (d + 1)) {b dx : Addr} {tk : Tok} {l : Addr} {ts : List Addr} {es : List (Nat × List Nat)} (hin : ∀ p ∈ hT C b dx tk l ts es, p ∈ H) (hlen : ts.length = es.length) (hsz : es.length ≤ 900)
    (h : ∀ w, Q (.ref w) ((w, .list (es.map fun e => .str (ofL [e.1]))) :: H)) : ∀ Vs, All2 [.ref b] Vs → CK C A (.call (.ref 196) ⟨Vs, []⟩) L m H Q := by
  intro Vs hV
  refine FnG.call (ks := []) Kh.f_keys K.G R ["self"] rfl rfl rfl (by decide +kernel) (fun env cs hc E => ?_) Vs [] hV trivial
  replace hc : cs = [] := List.eq_nil_of_length_eq_zero hc
  subst hc
  simp only [List.nil_append, List.append_nil, List.zip_cons_cons, List.zip_nil_left, List.map_cons, List.map_nil, newCells]
  simp only [BNDA]
  refine STN.loc E (by wtm_at "a") (by wtm_at "a") ?_
  conv => arg 3; whnf
  have hh : (A.deeper env).handled = none := R.handled
  have hl : (l, AO.list (ts.map .ref)) ∈ (L, AO.ns m) :: H := List.Mem.tail _ (hT_list hin)
  refine EB.ret ?_
  refine EV.listComp (snames := nm_hkeys_c) (names' := nm_hkeys_c) (cls := []) (locs := [".0", "k", "v"]) E (compSt0 rfl rfl rfl (by decide +kernel)) ?_
  refine EV.attrH Kh.X Kh.f ?_
  repeat wtm_at "n"
  refine ⟨_, _, rfl, (hT_hi hin).tail, ?_⟩
  refine LCQ.pure (xs := ts.map .ref) (es.map fun e => .str (ofL [e.1])) (ITERS.list hh (.tail _ hl)) (fun cenv => .tail _ hl) (by rw [List.length_map, List.length_map, hlen]) (by rw [List.length_map]; lia) rfl (fun cenv E' i x y hx hy => ?_) fun w => ?_
  · rw [List.getElem?_map, Option.map_eq_some_iff] at hx hy
    obtain ⟨t, ht, rfl⟩ := hx
    obtain ⟨e, he, rfl⟩ := hy
    have mt := hT_tup hin ht he
    simp only [List.map_cons, List.map_nil]
    refine ASG.pair hh (.tail _ mt) ?_
    repeat wtm_at "n"
    exact ⟨rfl, rfl, Sub.refl⟩
  · exact ⟨_, by wtm_at "sub", h w⟩
end

/- __delitem__, __setitem__ -/
noncomputable def kp (c : Nat) (p : Addr × (Nat × List Nat)) : Bool := lowC p.2.1 != lowC c
noncomputable def keepE (c : Nat) (es : List (Nat × List Nat)) : List (Nat × List Nat) := es.filter fun e => lowC e.1 != lowC c
theorem tups_pairs (z : List (Addr × (Nat × List Nat))) : tups (z.map (·.1)) (z.map (·.2)) = z.map fun p => (p.1, AO.tup [.str (ofL [p.2.1]), .str (ofL p.2.2)]) := by
  unfold tups; rw [List.zip_map']; simp
theorem keep_zip (c : Nat) : ∀ (ts : List Addr) (es : List (Nat × List Nat)), ts.length = es.length → ((ts.zip es).filter (kp c)).map (·.2) = keepE c es
  | [], [], _ => rfl
  | t :: ts, e :: es, h => by
    have ih := keep_zip c ts es (by simpa using h)
    unfold keepE kp at ih ⊢
    rw [List.zip_cons_cons, List.filter_cons, List.filter_cons]
    split <;> simp_all
section
variable {C : Cx} {A : Around} {L : Addr} {m : Loc} {H H₀ : HS} {Q : AV → HS → Prop} {F : Frag}
theorem K_hdel (K : KX C) (Kh : KH C F) {d : Nat} (R : Rm A (d + 2)) {b dx : Addr} {tk : Tok} {l : Addr} {ts : List Addr} {es : List (Nat × List Nat)} {c : Nat} (hsub : Sub (hT C b dx tk l ts es ++ H₀) H) (hlen : ts.length = es.length) (hsz : es.length ≤ 900)
    (hc : c ∈ lettersL) (hes : ∀ e ∈ es, e.1 ∈ lettersL)
    (h : ∀ ts', ts'.length = (keepE c es).length → Q .none (hT C b dx tk l ts' (keepE c es) ++ H₀)) : ∀ Vs, All2 [.ref b, .str (ofL [c])] Vs → CK C A (.call (.ref 162) ⟨Vs, []⟩) L m H Q := by
  intro Vs hV
  refine CK.sub hsub ?_
  refine FnG.call (ks := []) (ds := []) Kh.f_del K.G R ["self"] rfl rfl rfl (by decide +kernel) (fun env cs hcs E => ?_) Vs [] hV trivial
  obtain ⟨cn, rfl⟩ : ∃ cn, cs = [cn] := by
    rcases cs with _ | ⟨x, _ | ⟨y, r⟩⟩ <;> first | exact ⟨_, rfl⟩ | (exact absurd hcs (by simp [cellNames]))
  replace E : EnvOk env nm_hdel [("name", cn)] := E
  show BNDA C A.in1 env [("self", .ref b), ("name", .str (ofL [c]))] [("self", .undef)] ((cn, .cell .undef) :: (L, .ns m) :: (hT C b dx tk l ts es ++ H₀)) _
  simp only [BNDA]
  refine STN.loc E (by wtm_at "a") (by wtm_at "a") (STN.cell' E (by wtm_at "a") (by wtm_at "a") (by wtm_at "a") ?_)
  conv => arg 3; whnf
  have hh : (A.deeper env).handled = none := R.handled
  have x : ∀ {v : AV}, HI C ((cn, .cell v) :: (L, .ns m) :: (hT C b dx tk l ts es ++ H₀)) b l := ⟨dx, tk, .tail _ (.tail _ (.head _)), .tail _ (.tail _ (.tail _ (.head _)))⟩
  have hl : ∀ {v : AV}, (l, AO.list (ts.map .ref)) ∈ (cn, AO.cell v) :: (L, .ns m) :: (hT C b dx tk l ts es ++ H₀) := .tail _ (.tail _ (.tail _ (.tail _ (.head _))))
  repeat wtm_at "n"
  refine EV.methHK (fa := 143) Kh.X Kh.f (by simp [mths]) ?_
  repeat wtm_at "n"
  refine ⟨_, _, rfl, x, ?_⟩
  wtm_at "n"
  refine EV.lower ?_
  repeat wtm_at "n"
  refine ⟨_, _, rfl, low_is c hc, one_short _, ?_⟩
  repeat wtm_at "n"
  refine K_conv (bv := true) K Kh (R.deeper env) (name_fine (low_let c hc)).1 (name_fine (low_let c hc)).2 ?_
  refine ⟨_, _, by wtm_at "a", ?_⟩
  refine EB.cons (ES.setAll ?_)
  refine EV.listComp (snames := nm_hdel_c) (names' := [(".0", .local), ("kv", .local), ("name", .cell)]) (cls := [("name", cn)]) (locs := [".0", "kv"]) E (compSt1 rfl rfl rfl (by decide +kernel) (by simp only [List.map_cons, List.map_nil]; decide +kernel) ?_) ?_
  · intro q hq
    simp only [List.mem_cons, List.mem_nil_iff, or_false] at hq
    subst hq
    exact ⟨by wtm_at "a", by wtm_at "a", by show (Str.ofString "name", NameKind.free) ∈ _; wtm_at "m"⟩
  refine EV.attrH Kh.X Kh.f ?_
  repeat wtm_at "n"
  refine ⟨_, _, rfl, x, ?_⟩
  refine ⟨ts.map .ref, _, ITERS.list hh (.tail _ hl), by rw [List.length_map]; lia, fun cenv cs hc' E' => ?_⟩
  have : cs = [] := List.eq_nil_of_length_eq_zero hc'
  subst this
  replace E' : EnvOk cenv [(".0", .local), ("kv", .local), ("name", .cell)] [("name", cn)] := E'
  refine ⟨fun i ys H' => ys = (((ts.zip es).take i).filter (kp c)).map (fun p => .ref p.1) ∧ H' = (cn, .cell (.str (ofL [lowC c]))) :: (L, .ns m) :: (hT C b dx tk l ts es ++ H₀), ⟨rfl, rfl⟩, ?_, fun i y ys H' hx hj => ?_, fun ys H' hj w => ?_⟩
  · rintro i ys H' ⟨-, rfl⟩; exact .tail _ hl
  · obtain ⟨rfl, rfl⟩ := hj
    rw [List.getElem?_map, Option.map_eq_some_iff] at hx
    obtain ⟨t, ht, rfl⟩ := hx
    have hi : i < es.length := by have := (List.getElem?_eq_some_iff.mp ht).1; lia
    have he := hes _ (List.getElem_mem hi)
    have hz : (ts.zip es)[i]? = some (t, es[i]) := List.getElem?_zip_eq_some.mpr ⟨ht, List.getElem?_eq_getElem hi⟩
    have htk : ((ts.zip es).take (i + 1)) = (ts.zip es).take i ++ [(t, es[i])] := by
      have h1 : i < (ts.zip es).length := (List.getElem?_eq_some_iff.mp hz).1
      rw [List.take_succ_eq_append_getElem h1]
      rw [List.getElem?_eq_getElem h1] at hz
      rw [Option.some.inj hz]
    have mt : (t, AO.tup [.str (ofL [es[i].1]), .str (ofL es[i].2)]) ∈ (cn, AO.cell (.str (ofL [lowC c]))) :: (L, .ns m) :: (hT C b dx tk l ts es ++ H₀) :=
      .tail _ (.tail _ (List.mem_append_left _ (.tail _ (.tail _ (.tail _ (tups_mem ht (List.getElem?_eq_getElem hi)))))))
    generalize es[i] = e at he hz htk mt
    show ASG C (A.deeper env) _ _ cenv ([(".0", .undef), ("kv", .undef)] : Loc) _ _
    repeat wtm_at "n"
    show ET C (A.deeper env) _ cenv _ _ _
    repeat wtm_at "n"
    refine EV.lower ?_
    repeat wtm_at "n"
    refine SUB.tup mt (j := 0) (x := .str (ofL [e.1])) (by rfl) (by rfl) ?_
    refine ⟨_, _, rfl, low_is _ he, one_short _, ?_⟩
    repeat wtm_at "n"
    have hne : (ofL [lowC e.1] != ofL [lowC c]) = kp c (t, e) := by
      unfold kp
      rw [bne, ofL_beq]
      cases hb : lowC e.1 == lowC c
      · rw [show ([lowC e.1] == [lowC c]) = false from beq_eq_false_iff_ne.mpr (fun q => (beq_eq_false_iff_ne.mp hb) (List.cons.inj q).1)]
        simp [bne, hb]
      · rw [beq_iff_eq.mp hb]; simp [bne]
    rw [hne]
    cases hk : kp c (t, e)
    · refine ifF rfl ?_
      show (if false = true then _ else _)
      refine ifF rfl ?_
      refine ⟨_, Sub.fade (locs := [".0", "kv"]) rfl, ?_, rfl⟩
      rw [htk, List.filter_append, List.filter_cons, hk, if_neg (by decide)]
      simp
    · refine ifT rfl ?_
      refine IFS.nil ?_
      refine ifT rfl ?_
      repeat wtm_at "n"
      refine ⟨_, Sub.fade (locs := [".0", "kv"]) rfl, ?_, rfl⟩
      rw [htk, List.filter_append, List.filter_cons, hk, if_pos rfl]
      simp
  · obtain ⟨rfl, rfl⟩ := hj
    rw [List.length_map, List.take_of_length_le (by rw [List.length_zip]; lia)]
    have hz := keep_zip c ts es hlen
    have htp := tups_pairs ((ts.zip es).filter (kp c))
    have hln : (((ts.zip es).filter (kp c)).map (·.1)).length = (keepE c es).length := by rw [← hz, List.length_map, List.length_map]
    have hk2 := h _ hln
    refine ⟨(w, .list (((ts.zip es).filter (kp c)).map fun p => .ref p.1)) :: (cn, .cell (.str (ofL [lowC c]))) :: (L, .ns m) :: (b, .raw (instObj 244 dx)) :: (dx, .raw (hdrD C.w tk l)) :: (l, .list (ts.map .ref)) :: (tups ts es ++ H₀), Sub.refl, ?_⟩
    refine EV.attrH Kh.X Kh.f ?_
    repeat wtm_at "n"
    refine ⟨_, _, rfl, ⟨dx, tk, by wtm_at "m", by wtm_at "m"⟩, ?_⟩
    refine ⟨l, w, ts.map .ref, ((ts.zip es).filter (kp c)).map fun p => .ref p.1, _, _, rfl, rfl, rfl, by rw [List.length_map]; lia, ?_, by wtm_at "a", ?_⟩
    · rw [List.length_map, ← List.length_map (f := (·.1)), hln]; exact Nat.le_trans (List.length_filter_le ..) (by lia)
    refine EB.nil ⟨_, ?_, hk2⟩
    unfold hT
    rw [← hz, htp, List.map_map]
    refine Sub.drop (Sub.drop (Sub.cons (Sub.cons (Sub.cons (Sub.cons (Sub.of_sublist ?_))))))
    exact List.Sublist.append_right (List.Sublist.map _ List.filter_sublist) _
end

/- __setitem__, the class called -/
section
variable {C : Cx} {A : Around} {L : Addr} {m : Loc} {H H₀ : HS} {Q : AV → HS → Prop} {F : Frag}
theorem hT_app {b dx : Addr} {tk : Tok} {l : Addr} {ts : List Addr} {es : List (Nat × List Nat)} : hT C b dx tk l ts es ++ H₀ = (b, .raw (instObj 244 dx)) :: (dx, .raw (hdrD C.w tk l)) :: (l, .list (ts.map .ref)) :: (tups ts es ++ H₀) := rfl
theorem hT_grow {t : Addr} {b dx : Addr} {tk : Tok} {l : Addr} {ts : List Addr} {es : List (Nat × List Nat)} {e : Nat × List Nat} (hlen : ts.length = es.length) {p : Addr × AO} :
    Sub (p :: (hT C b dx tk l (ts ++ [t]) (es ++ [e]) ++ H₀)) ((t, .tup [.str (ofL [e.1]), .str (ofL e.2)]) :: p :: (b, .raw (instObj 244 dx)) :: (dx, .raw (hdrD C.w tk l)) :: (l, .list (ts.map .ref ++ [.ref t])) :: (tups ts es ++ H₀)) := by
  unfold hT
  rw [tups_snoc hlen, List.map_append]
  refine Sub.of_perm ?_
  simp only [List.cons_append, List.append_assoc, List.nil_append, List.map_cons, List.map_nil]
  refine .trans ?_ (.swap ..)
  refine List.Perm.cons _ ?_
  exact (List.perm_middle (a := (t, AO.tup [.str (ofL [e.1]), .str (ofL e.2)])) (l₁ := [(b, AO.raw (instObj 244 dx)), (dx, .raw (hdrD C.w tk l)), (l, .list (ts.map .ref ++ [.ref t]))] ++ tups ts es) (l₂ := H₀))
theorem K_hset (K : KX C) (Kh : KH C F) {d : Nat} (R : Rm A (d + 3)) {b dx : Addr} {tk : Tok} {l : Addr} {ts : List Addr} {es : List (Nat × List Nat)} {c k p : Nat} (hsub : Sub (hT C b dx tk l ts es ++ H₀) H) (hlen : ts.length = es.length) (hsz : es.length ≤ 900)
    (hc : c ∈ lettersL) (hes : ∀ e ∈ es, e.1 ∈ lettersL) (h1 : 8 ≤ k) (h2 : k < 32) (hp : p ∈ [114, 103, 98])
    (h : ∀ ts', ts'.length = (keepE c es ++ [(c, dots k ++ [p])]).length → Q .none (hT C b dx tk l ts' (keepE c es ++ [(c, dots k ++ [p])]) ++ H₀)) : ∀ Vs, All2 [.ref b, .str (ofL [c]), .str (ofL (dots k ++ [p]))] Vs → CK C A (.call (.ref 157) ⟨Vs, []⟩) L m H Q := by
  obtain ⟨r1, r2⟩ := row_fine h1 h2 hp
  generalize dots k ++ [p] = row at r1 r2 h
  intro Vs hV
  refine CK.sub hsub ?_
  refine FnG.call (ks := []) (ds := []) Kh.f_set K.G R ["self", "name", "val"] rfl rfl rfl (by decide +kernel) (fun env cs hcs E => ?_) Vs [] hV trivial
  replace hcs : cs = [] := List.eq_nil_of_length_eq_zero hcs
  subst hcs
  simp only [List.cons_append, List.nil_append, List.append_nil, List.zip_cons_cons, List.zip_nil_left, List.map_cons, List.map_nil, newCells, List.nil_append]
  simp only [BNDA]
  refine STN.loc E (by wtm_at "a") (by wtm_at "a") (STN.loc E (by wtm_at "a") (by wtm_at "a") (STN.loc E (by wtm_at "a") (by wtm_at "a") ?_))
  conv => arg 3; whnf
  have hh : (A.deeper env).handled = none := R.handled
  refine EB.cons (ES.delH Kh.X Kh.f ?_)
  repeat wtm_at "n"
  refine ⟨_, _, rfl, ⟨dx, tk, .tail _ (.head _), .tail _ (.tail _ (.head _))⟩, ?_⟩
  refine K_hdel K Kh (R.deeper env) (H₀ := (L, .ns m) :: H₀) (b := b) (dx := dx) (tk := tk) (l := l) (ts := ts) (es := es) (Sub.of_perm ?_) hlen hsz hc hes fun ts' hl' => ?_
  · exact List.perm_middle (l₁ := hT C b dx tk l ts es)
  have hk : (keepE c es).length ≤ 900 := Nat.le_trans (List.length_filter_le ..) hsz
  have x : HI C ((b, .raw (instObj 244 dx)) :: (dx, .raw (hdrD C.w tk l)) :: (l, .list (ts'.map .ref)) :: (tups ts' (keepE c es) ++ (L, .ns m) :: H₀)) b l := ⟨dx, tk, by wtm_at "m", by wtm_at "m"⟩
  simp only [seqQ]
  rw [hT_app]
  refine EB.expr E ?_ (by rfl)
  refine EV.append ?_
  refine EV.attrH Kh.X Kh.f ?_
  repeat wtm_at "n"
  refine ⟨_, _, rfl, x, _, _, rfl, by wtm_at "m", ?_⟩
  wtm_at "n"
  wtm_at "n"
  refine EV.methHK (fa := 143) Kh.X Kh.f (by simp [mths]) ?_
  repeat wtm_at "n"
  refine ⟨_, _, rfl, x, ?_⟩
  repeat wtm_at "n"
  refine K_conv (bv := true) K Kh (R.deeper env) (name_fine hc).1 (name_fine hc).2 ?_
  wtm_at "n"
  refine EV.methHK (fa := 143) Kh.X Kh.f (by simp [mths]) ?_
  repeat wtm_at "n"
  refine ⟨_, _, rfl, x, ?_⟩
  repeat wtm_at "n"
  refine K_conv (bv := false) K Kh (R.deeper env) r1 r2 ?_
  repeat wtm_at "n"
  refine ⟨Nat.le_of_ble_eq_true rfl, fun t => ?_⟩
  refine ⟨_, _, by wtm_at "a", by rw [List.length_map]; lia, ?_⟩
  refine EB.nil ⟨_, ?_, h (ts' ++ [t]) (by rw [List.length_append, List.length_append, hl']; rfl)⟩
  refine Sub.trans (hT_grow hl' (p := (L, .ns m))) (Sub.cons (Sub.of_perm ?_))
  exact (List.perm_middle (l₁ := [(b, AO.raw (instObj 244 dx)), (dx, .raw (hdrD C.w tk l)), (l, .list (ts'.map .ref ++ [.ref t]))] ++ tups ts' (keepE c es))).symm
/- Headers() -/
theorem EV.headers (K : KX C) (Kh : KH C F) {env : Env} {names : List (Str × NameKind)} {cells : List (Str × Addr)} {p pos : Pos} (E : EnvOk env names cells) (hn : At names "Headers" .globalImplicit) {d : Nat} (R : Rm A (d + 3))
    (h : ∀ b dx tk l, Q (.ref b) (hT C b dx tk l [] [] ++ H)) : EV C A (.Call (.Name "Headers" p) [] [] pos) env m H Q := by
  refine EV.newH Kh.X Kh.f ?_
  refine EV.globK K E hn (by wtm_at "a") ?_
  refine ⟨rfl, fun b dx Vs hV => ?_⟩
  have R1 : Rm (A.under (.builtin "type.__call__" ⟨[.ref 244], []⟩)) (d + 1) := ⟨R.handled, by have := R.depth; show A.depth + 1 + (d + 1) ≤ 900; lia, by have := R.units; show A.units + 1 + 30 * (d + 1) ≤ 9000; lia⟩
  refine FnG.call (as := [.ref b]) (ks := []) (ds := [.none]) Kh.f_init K.G R1 ["self", "headers", "k", "v"] rfl rfl rfl (by decide +kernel) (fun env' cs hcs E' => ?_) Vs [] hV trivial
  replace hcs : cs = [] := List.eq_nil_of_length_eq_zero hcs
  subst hcs
  simp only [List.cons_append, List.nil_append, List.append_nil, List.zip_cons_cons, List.zip_nil_left, List.map_cons, List.map_nil, newCells, List.nil_append]
  simp only [BNDA]
  refine STN.loc E' (by wtm_at "a") (by wtm_at "a") (STN.loc E' (by wtm_at "a") (by wtm_at "a") ?_)
  conv => arg 3; whnf
  have hh : ((A.under (.builtin "type.__call__" ⟨[.ref 244], []⟩)).deeper env').handled = Option.none := R.handled
  repeat wtm_at "n"
  refine OP.isNotNone ?_
  repeat wtm_at "n"
  refine ifF rfl ?_
  repeat wtm_at "n"
  refine ⟨Nat.le_of_ble_eq_true rfl, fun l => ?_⟩
  repeat wtm_at "n"
  refine CB.typeList (by wtm_at "m") ?_
  repeat wtm_at "n"
  refine OP.isNotTy ?_
  repeat wtm_at "n"
  refine ifF rfl ?_
  refine EB.nil ?_
  simp only [seqQ]
  refine EB.cons (ES.setH Kh.X Kh.f ?_)
  repeat wtm_at "n"
  refine ⟨b, dx, l, rfl, rfl, by wtm_at "m", fun tk => ⟨_, by wtm_at "a", ?_⟩⟩
  simp only [seqQ]
  refine EB.if ?_
  refine ET.plain ?_
  repeat wtm_at "n"
  refine ifT rfl ?_
  repeat wtm_at "n"
  refine forL (xs := []) (fun i m' H' => m' = ([("self", .ref b), ("headers", .ref l), ("k", .undef), ("v", .undef)] : Loc) ∧ H' = (l, .list []) :: (env.locals, .ns m) :: (b, .raw (instObj 244 dx)) :: (dx, .raw (hdrD C.w tk l)) :: H) (.head _) hh ⟨rfl, rfl⟩ ?_ (fun i x m' H' hx _ => by cases hx) fun m' H' hj => ?_
  · rintro i m' H' ⟨-, rfl⟩; exact .head _
  obtain ⟨rfl, rfl⟩ := hj
  refine EB.nil ?_
  simp only [seqQ]
  refine EB.nil ⟨_, ?_, rfl, h b dx tk l⟩
  refine Sub.of_perm ?_
  show ((env.locals, AO.ns m) :: (b, AO.raw (instObj 244 dx)) :: (dx, .raw (hdrD C.w tk l)) :: (l, .list []) :: H).Perm _
  refine .trans (List.Perm.cons _ ?_) (.swap ..)
  exact (List.perm_middle (a := (l, AO.list [])) (l₁ := [(b, AO.raw (instObj 244 dx)), (dx, .raw (hdrD C.w tk l))]))
end

/- _law_book -/
noncomputable def rowS (h : Int) : List Nat := dots h.toNat ++ [hueOf h]
noncomputable def bookE (hs : List Int) (start k : Nat) : Nat × List Nat := (97 + (start + k) % hs.length, rowS (hs.getD ((start + k) % hs.length) 0))
noncomputable def bookS (hs : List Int) (start : Nat) : List (Nat × List Nat) := (List.range hs.length).map (bookE hs start)
theorem let_of {p : Nat} (h : p < 6) : 97 + p ∈ lettersL ∧ lowC (97 + p) = 97 + p ∧ (Str.ofString "abcdef").cps[p]? = some (97 + p) := by
  have : p = 0 ∨ p = 1 ∨ p = 2 ∨ p = 3 ∨ p = 4 ∨ p = 5 := by lia
  rcases this with rfl | rfl | rfl | rfl | rfl | rfl <;> exact ⟨by decide, by decide, by rfl⟩
theorem hue_in (h : Int) : hueOf h ∈ [114, 103, 98] := by unfold hueOf; split <;> (try split) <;> decide
theorem mod_ne {n s i j : Nat} (hn : i < n) (hj : j < i) : (s + j) % n ≠ (s + i) % n := fun e => by
  have h1 : ((s + i) - (s + j)) % n = 0 := by
    have := Nat.sub_mod_eq_zero_of_mod_eq e.symm
    exact this
  rw [show (s + i) - (s + j) = i - j by lia, Nat.mod_eq_of_lt (by omega)] at h1
  lia
section
variable {C : Cx} {A : Around} {L : Addr} {m : Loc} {H : HS} {Q : AV → HS → Prop} {F : Frag}
theorem K_book (K : KX C) (Kh : KH C F) {d : Nat} (R : Rm A (d + 4)) {a : Addr} {hs : List Int} {start : Nat} (hm : (a, AO.list (hs.map .int)) ∈ H) (h1 : 1 ≤ hs.length) (h2 : hs.length ≤ 6) (hr : ∀ h ∈ hs, 8 ≤ h ∧ h < 32)
    (h : ∀ b dx tk l ts, ts.length = (bookS hs start).length → Q (.ref b) (hT C b dx tk l ts (bookS hs start) ++ H)) : OPL C A (fun Vs => call (.ref 310) Vs) [.ref a, .int start] L m H Q := by
  refine FnK.call K.f_book K.G R ["heights", "start", "book", "k", "place"] rfl (by decide +kernel) fun env cs hc E => ?_
  replace hc : cs = [] := List.eq_nil_of_length_eq_zero hc
  subst hc
  simp only [List.zip_cons_cons, List.zip_nil_left, List.map_cons, List.map_nil, newCells, List.nil_append]
  simp only [BNDA]
  refine STN.loc E (by wtm_at "a") (by wtm_at "a") (STN.loc E (by wtm_at "a") (by wtm_at "a") ?_)
  conv => arg 3; whnf
  have hh : (A.deeper env).handled = none := R.handled
  have ma : ∀ {b dx : Addr} {tk : Tok} {l : Addr} {ts : List Addr} {es : List (Nat × List Nat)}, (a, AO.list (hs.map .int)) ∈ hT C b dx tk l ts es ++ (L, .ns m) :: H := List.mem_append_right _ (.tail _ hm)
  refine EB.assign E (by wtm_at "a") ?_ (by rfl)
  refine EV.headers K Kh E (by wtm_at "a") (R.deeper env) fun b dx tk l => ?_
  wtm_at "n"
  repeat wtm_at "n"
  refine CB.lenList ma (by rw [List.length_map]; lia) ?_
  rw [List.length_map]
  repeat wtm_at "n"
  refine CB.range1 fun r => ?_
  obtain ⟨J1, hJ1⟩ : ∃ J : Nat → Loc → HS → Prop, ∀ i m' H', J i m' H' ↔ (∀ P : Prop, (∀ kv pv ts, ts.length = i → m' = ([("heights", .ref a), ("start", .int start), ("book", .ref b), ("k", kv), ("place", pv)] : Loc) → H' = (r, .rng 0 hs.length 1) :: (hT C b dx tk l ts ((bookS hs start).take i) ++ (L, .ns m) :: H) → P) → P) := ⟨_, fun _ _ _ => Iff.rfl⟩
  refine forR hs.length J1 rfl (by lia) hh ((hJ1 _ _ _).mpr fun _ kk => kk _ _ ([]) rfl rfl rfl) (fun i m' H' hi hj => ?_) fun m' H' hj => ?_
  · refine (hJ1 _ _ _).mp hj _ fun kv pv ts hts ee1 ee2 => ?_
    subst ee1; subst ee2
    have hp : (start + i) % hs.length < hs.length := Nat.mod_lt _ h1
    have hp6 : (start + i) % hs.length < 6 := by lia
    obtain ⟨l1, l2, l3⟩ := let_of hp6
    have htk : (bookS hs start).take (i + 1) = (bookS hs start).take i ++ [bookE hs start i] := by
      have : i < (bookS hs start).length := by simp [bookS]; exact hi
      rw [List.take_succ_eq_append_getElem this]
      simp [bookS]
    have hlt : ((bookS hs start).take i).length = i := by rw [List.length_take]; simp [bookS]; lia
    have hes : ∀ e ∈ (bookS hs start).take i, e.1 ∈ lettersL ∧ lowC e.1 ≠ lowC (97 + (start + i) % hs.length) := fun e he => by
      obtain ⟨j, hj, rfl⟩ := List.getElem_of_mem he
      rw [hlt] at hj
      have hq : (start + j) % hs.length < 6 := Nat.lt_of_lt_of_le (Nat.mod_lt _ h1) h2
      have e1 : ((bookS hs start).take i)[j].1 = 97 + (start + j) % hs.length := by simp [bookS, bookE]
      rw [e1, l2, (let_of hq).2.1]
      exact ⟨(let_of hq).1, fun e => mod_ne (s := start) hi hj (by lia)⟩
    have hrow := hr _ (List.getElem_mem hp)
    have hgd : hs.getD ((start + i) % hs.length) 0 = hs[(start + i) % hs.length] := by rw [List.getD_eq_getElem?_getD, List.getElem?_eq_getElem hp]; rfl
    have hE : bookE hs start i = (97 + (start + i) % hs.length, dots (hs[(start + i) % hs.length]).toNat ++ [hueOf hs[(start + i) % hs.length]]) := by unfold bookE rowS; rw [hgd]
    have hget : (hs.map AV.int)[(start + i) % hs.length]? = some (.int hs[(start + i) % hs.length]) := by rw [List.getElem?_map, List.getElem?_eq_getElem hp]; rfl
    generalize hs[(start + i) % hs.length] = hv at hrow hE hget
    repeat wtm_at "n"
    refine CB.lenList (.tail _ ma) (by rw [List.length_map]; lia) ?_
    rw [List.length_map]
    repeat wtm_at "n"
    refine OP.fmod (by lia) ?_
    rw [show ((start : Int) + (i : Int)).fmod (hs.length : Int) = (((start + i) % hs.length : Nat) : Int) by
      rw [Int.fmod_eq_emod_of_nonneg _ (by lia), Int.natCast_emod, Int.natCast_add]]
    generalize (start + i) % hs.length = p at *
    repeat wtm_at "n"
    refine EV.methH (fa := 234) Kh.X Kh.f (by simp [mths]) ?_
    repeat wtm_at "n"
    refine ⟨_, _, rfl, ⟨dx, tk, .tail _ (.head _), .tail _ (.tail _ (.head _))⟩, ?_⟩
    repeat wtm_at "n"
    refine SUB.str (j := p) (c := 97 + p) ?_ l3 ?_
    · exact seqIdx_nat (n := 6) hp6
    repeat wtm_at "n"
    refine SUB.list (.tail _ ma) (j := p) (x := .int hv) ?_ hget ?_
    · rw [List.length_map]; exact seqIdx_nat hp
    obtain ⟨kn, rfl⟩ : ∃ kn : Nat, hv = (kn : Int) := ⟨hv.toNat, by lia⟩
    rw [show Str.ofString "." = ofL [46] from by decide +kernel]
    refine OP.muls (by lia) (by lia) ?_
    repeat wtm_at "n"
    refine SUB.list (.tail _ ma) (j := p) (x := .int kn) ?_ hget ?_
    · rw [List.length_map]; exact seqIdx_nat hp
    repeat wtm_at "n"
    refine OP.fmod (by decide) ?_
    refine SUB.hue ?_
    repeat wtm_at "n"
    refine OP.adds (by rw [ofL_len, ofL_len, List.length_replicate, sizeLine_eq]; simp; lia) ?_
    rw [ofL_app]
    repeat wtm_at "n"
    rw [Int.toNat_natCast] at hE
    refine K_setd (c := 97 + p) (k := kn) (p := hueOf kn) K Kh (R.deeper env) (b := b) (dx := dx) (tk := tk) (l := l) (ts := ts) (es := (bookS hs start).take i) (H₀ := (r, .rng 0 hs.length 1) :: (L, .ns m) :: H) (Sub.of_perm ?_) (by rw [hlt]; exact hts) (by rw [hlt]; lia) l1 hes (by lia) (by lia) (hue_in _) fun t => ?_
    · exact List.perm_middle (l₁ := hT C b dx tk l ts ((bookS hs start).take i))
    refine EB.sub (H' := (r, .rng 0 hs.length 1) :: (hT C b dx tk l (ts ++ [t]) ((bookS hs start).take (i + 1)) ++ (L, .ns m) :: H)) ?_ (EB.nil ((hJ1 _ _ _).mpr fun _ kk => kk _ _ (ts ++ [t]) (by rw [List.length_append, hts]; rfl) rfl rfl))
    rw [htk, hE]
    exact Sub.of_perm (List.perm_middle (l₁ := hT C b dx tk l (ts ++ [t]) ((bookS hs start).take i ++ [(97 + p, dots kn ++ [hueOf kn])]))).symm
  · refine (hJ1 _ _ _).mp hj _ fun kv pv ts hts ee1 ee2 => ?_
    subst ee1; subst ee2
    rw [List.take_of_length_le (by simp [bookS])]
    repeat wtm_at "n"
    exact ⟨_, Sub.drop (Sub.of_perm (List.perm_middle (l₁ := hT C b dx tk l ts (bookS hs start))).symm), h b dx tk l ts (by rw [hts]; simp [bookS])⟩
end

/- the books as dicts; what a raise is -/
noncomputable def rowsD (es : List (Nat × List Nat)) : List (Str × AV) := es.map fun e => (ofL [lowC e.1], .str (ofL e.2))
theorem dset_new {es : List (Str × AV)} {k : Str} {v : AV} (h : k ∉ es.map (·.1)) : dset es k v = es ++ [(k, v)] := by
  unfold dset
  rw [if_neg]
  simp only [List.any_eq_true, decide_eq_true_eq, not_exists, not_and]
  exact fun p hp e => h (e ▸ List.mem_map_of_mem hp)
theorem rowsD_get : ∀ {ns : List Nat} {f : Nat → List Nat} {q : Nat}, (∃ c ∈ ns, lowC c = q) → dget (rowsD (ns.map fun c => (c, f (lowC c)))) (ofL [q]) = some (.str (ofL (f q)))
  | c :: ns, f, q, h => by
    unfold dget rowsD
    rw [List.map_cons, List.map_cons, List.find?_cons]
    by_cases e : lowC c = q
    · rw [show decide (ofL [lowC c] = ofL [q]) = true by rw [e]; simp]; simp [e]
    · rw [show decide (ofL [lowC c] = ofL [q]) = false by rw [decide_eq_false_iff_not, ofL_inj]; simpa using e]
      obtain ⟨d, hd, hq⟩ := h
      rcases List.mem_cons.mp hd with rfl | hd
      · exact absurd hq e
      · exact rowsD_get ⟨d, hd, hq⟩
section
variable {C : Cx} {A : Around} {env : Env} {L : Addr} {m : Loc} {H H₀ H₁ : HS} {Q : AV → HS → Prop} {F : Frag}
theorem DCQ.rows {p1 p2 p3 p4 p5 p6 p7 : Pos} {kk : Nat} {w : Addr} {ts : List Addr} {es : List (Nat × List Nat)} {pl : Env → Sem Bool} (hmc : ∀ cenv, MC (.Name "name" p4) "lower" p5 p6 [] cenv (pl cenv)) (hh : A.handled = none) (hw : (w, AO.list (ts.map .ref)) ∈ H₁) (hin : ∀ (i : Nat) (t : Addr) (e : Nat × List Nat), ts[i]? = some t → es[i]? = some e → (t, AO.tup [.str (ofL [e.1]), .str (ofL e.2)]) ∈ H₁)
    (hlen : ts.length = es.length) (hsz : es.length ≤ 900) (hes : ∀ e ∈ es, e.1 ∈ lettersL) (nd : (es.map fun e => lowC e.1).Nodup) (h : ∀ d, Q (.ref d) ((d, .dict (rowsD es)) :: H₁)) :
    DCQ C A (.Tuple [.Name "name" p1, .Name "row" p2] kk p3) (.Call (.Attribute (.Name "name" p4) "lower" p5) [] [] p6) (.Name "row" p7) [] env [(".0", .local), ("name", .local), ("row", .local)] [(".0", .local), ("name", .local), ("row", .local)] [] [".0", "name", "row"] m (.ref w) H₁ Q := by
  refine ⟨ts.map .ref, _, ITERS.list hh (.tail _ hw), by rw [List.length_map]; lia, fun cenv cs hc E => ?_⟩
  have : cs = [] := List.eq_nil_of_length_eq_zero hc
  subst this
  replace E : EnvOk cenv [(".0", .local), ("name", .local), ("row", .local)] [] := E
  refine ⟨fun i ys H' => ys = rowsD (es.take i) ∧ H' = H₁, ⟨rfl, rfl⟩, ?_, fun i y ys H' hx hj => ?_, fun ys H' hj d => ?_⟩
  · rintro i ys H' ⟨-, rfl⟩; exact .tail _ hw
  · obtain ⟨rfl, rfl⟩ := hj
    rw [List.getElem?_map, Option.map_eq_some_iff] at hx
    obtain ⟨t, ht, rfl⟩ := hx
    have hi : i < es.length := by have := (List.getElem?_eq_some_iff.mp ht).1; lia
    have mt := hin i t _ ht (List.getElem?_eq_getElem hi)
    have he := hes _ (List.getElem_mem hi)
    have hnew : ofL [lowC es[i].1] ∉ (rowsD (es.take i)).map (·.1) := fun hm => by
      simp only [rowsD, List.map_map, List.mem_map, Function.comp_apply] at hm
      obtain ⟨e, hm, hq⟩ := hm
      obtain ⟨j, hj, rfl⟩ := List.getElem_of_mem hm
      rw [List.length_take] at hj
      have hq' : lowC es[j].1 = lowC es[i].1 := by
        have := ofL_inj.mp hq; simpa using this
      exact List.pairwise_iff_getElem.mp nd j i (by rw [List.length_map]; lia) (by rw [List.length_map]; omega) (by lia) (by simpa using hq')
    have htk : rowsD (es.take (i + 1)) = dset (rowsD (es.take i)) (ofL [lowC es[i].1]) (.str (ofL es[i].2)) := by
      rw [dset_new hnew, List.take_succ_eq_append_getElem hi]; unfold rowsD; rw [List.map_append]; rfl
    generalize es[i] = e at mt he htk
    show ASG C A _ _ cenv ([(".0", .undef), ("name", .undef), ("row", .undef)] : Loc) _ _
    refine ASG.pair hh mt ?_
    repeat wtm_at "n"
    refine IFS.nil ?_
    rw [if_pos rfl]
    refine EV.lower ?_ (hmc cenv)
    repeat wtm_at "n"
    refine ⟨_, _, rfl, low_is _ he, one_short _, ?_⟩
    refine ⟨_, rfl, ?_⟩
    repeat wtm_at "n"
    exact ⟨_, Sub.fade (locs := [".0", "name", "row"]) rfl, htk.symm, rfl⟩
  · obtain ⟨rfl, rfl⟩ := hj
    rw [List.length_map, List.take_of_length_le (by lia)]
    exact ⟨_, Sub.refl, h d⟩
end

/- what a raise is -/
noncomputable def esS (ns : List Nat) (hs : List Int) : List (Nat × List Nat) := ns.map fun c => (c, rowS (hs.getD (lowC c - 97) 0))
/- a book's names: n letters, each place once -/
structure NsOk (n : Nat) (ns : List Nat) : Prop where
  len : ns.length = n
  mem : ∀ c ∈ ns, c ∈ lettersL ∧ 97 ≤ lowC c ∧ lowC c < 97 + n
  nd : (ns.map lowC).Nodup
  all : ∀ p, p < n → ∃ c ∈ ns, lowC c = 97 + p
noncomputable def condR (n : Nat) (hs ts : List Int) (p : Nat) : Bool :=
  decide (hs.getD p 0 < ts.getD p 0) && (hueOf (hs.getD ((p + n - 1) % n) 0) == hueOf (hs.getD ((p + 1) % n) 0) && fwdS (hueOf (hs.getD p 0)) (hueOf (hs.getD ((p + 1) % n) 0)))
noncomputable def findR (n : Nat) (hs ts : List Int) : List Nat → Option Nat
  | [] => none
  | c :: r => if condR n hs ts (lowC c - 97) = true then some c else findR n hs ts r
noncomputable def nsR (ns : List Nat) (c : Nat) : List Nat := ns.filter (fun d => lowC d != lowC c) ++ [swapC c]
noncomputable def hsR (hs : List Int) (c : Nat) : List Int := hs.set (lowC c - 97) (hs.getD (lowC c - 97) 0 + 2)
theorem esS_get {n : Nat} {ns : List Nat} {hs : List Int} (ok : NsOk n ns) {p : Nat} (h : p < n) : dget (rowsD (esS ns hs)) (ofL [97 + p]) = some (.str (ofL (rowS (hs.getD p 0)))) := by
  have := rowsD_get (f := fun q => rowS (hs.getD (q - 97) 0)) (ok.all p h)
  rw [show 97 + p - 97 = p by lia] at this
  exact this
theorem esS_raise {n : Nat} {ns : List Nat} {hs : List Int} (ok : NsOk n ns) (hl : hs.length = n) {c : Nat} (hc : c ∈ ns) : keepE (swapC c) (esS ns hs) ++ [(swapC c, rowS (hs.getD (lowC c - 97) 0 + 2))] = esS (nsR ns c) (hsR hs c) := by
  obtain ⟨hlet, h97, hn⟩ := ok.mem c hc
  obtain ⟨_, hsw⟩ := swap_let c hlet
  unfold esS nsR keepE
  rw [List.map_append, List.map_singleton, hsw, List.filter_map]
  congr 1
  · apply List.map_congr_left
    intro d hd
    obtain ⟨hd1, hd2⟩ := List.mem_filter.mp hd
    have hne : lowC d ≠ lowC c := by simpa using hd2
    have := (ok.mem d hd1).2.1
    unfold hsR
    rw [List.getD_eq_getElem?_getD, List.getD_eq_getElem?_getD, List.getElem?_set_ne (by omega)]
  · unfold hsR
    rw [List.getD_eq_getElem?_getD (l := hs.set _ _), List.getElem?_set_self (by lia)]; rfl
theorem filt_perm {c : Nat} : ∀ (ns : List Nat), (ns.map lowC).Nodup → c ∈ ns → ((ns.filter fun d => lowC d != lowC c).map lowC ++ [lowC c]).Perm (ns.map lowC)
  | d :: ns, nd, hc => by
    rw [List.map_cons, List.nodup_cons] at nd
    rw [List.filter_cons]
    by_cases e : lowC d = lowC c
    · rw [if_neg (by simp [e])]
      have : ns.filter (fun d => lowC d != lowC c) = ns := by
        rw [List.filter_eq_self]
        intro x hx
        have : lowC x ≠ lowC c := fun q => nd.1 (by rw [e, ← q]; exact List.mem_map_of_mem hx)
        simpa using this
      rw [this, List.map_cons, e]
      exact List.perm_append_singleton ..
    · rw [if_pos (by simpa using e), List.map_cons, List.map_cons, List.cons_append]
      refine List.Perm.cons _ (filt_perm ns nd.2 ?_)
      rcases List.mem_cons.mp hc with rfl | hc
      · exact absurd rfl e
      · exact hc
theorem nsR_ok {n : Nat} {ns : List Nat} (ok : NsOk n ns) {c : Nat} (hc : c ∈ ns) : NsOk n (nsR ns c) := by
  obtain ⟨hlet, h97, hn⟩ := ok.mem c hc
  obtain ⟨hsl, hsw⟩ := swap_let c hlet
  have hp := filt_perm ns ok.nd hc
  refine ⟨?_, ?_, ?_, ?_⟩
  · have := hp.length_eq
    simp only [List.length_append, List.length_map, List.length_cons, List.length_nil] at this
    unfold nsR; rw [List.length_append, List.length_singleton]; rw [← ok.len]; omega
  · intro d hd
    rcases List.mem_append.mp hd with hd | hd
    · exact ok.mem d (List.mem_filter.mp hd).1
    · rw [List.mem_singleton.mp hd, hsw]; exact ⟨hsl, h97, hn⟩
  · unfold nsR; rw [List.map_append, List.map_singleton, hsw]; exact hp.nodup_iff.mpr ok.nd
  · intro p hpn
    obtain ⟨d, hd, he⟩ := ok.all p hpn
    by_cases hq : lowC d = lowC c
    · exact ⟨swapC c, List.mem_append_right _ (.head _), by rw [hsw, ← hq, he]⟩
    · exact ⟨d, List.mem_append_left _ (List.mem_filter.mpr ⟨hd, by simpa using hq⟩), he⟩
/- the light that is lacking -/
noncomputable def lackL (a b : List Int) : List Int := (List.range 3).map fun k => 1 - a.getD k 0 - b.getD k 0
noncomputable def hueI (l : List Int) : UInt64 := Float64.add (Float64.mul (rgbH (.int (l.getD 0 0)) (.int (l.getD 1 0)) (.int (l.getD 2 0))) (Float64.ofInt 3)) flh
noncomputable def unitL (j : Nat) : List Int := if j = 0 then [1, 0, 0] else if j = 1 then [0, 1, 0] else [0, 0, 1]
theorem lack_all : ∀ j : Fin 3, (let l := lackL (unitL j.val) (unitL ((j.val + 1) % 3)); rgbOk (.int (l.getD 0 0)) (.int (l.getD 1 0)) (.int (l.getD 2 0)) = true ∧ isFin (hueI l) = true ∧ toI (hueI l) = ((j.val + 2) % 3 : Nat)) := by decide +kernel
theorem hueOf_mod (h : Int) : hueOf h = hueOf (h.fmod 3) := by unfold hueOf; rw [show (h.fmod 3).fmod 3 = h.fmod 3 by rw [Int.fmod_fmod]]
theorem fwd_step {h a : Int} (hf : fwdS (hueOf h) (hueOf a) = true) : a.fmod 3 = (h + 1).fmod 3 := by
  have e : ∀ x : Int, x.fmod 3 = x % 3 := fun x => Int.fmod_eq_emod_of_nonneg _ (by decide)
  unfold hueOf at hf
  rw [e, e] at hf
  rw [e, e]
  have h1 : h % 3 = 0 ∨ h % 3 = 1 ∨ h % 3 = 2 := by lia
  have h2 : a % 3 = 0 ∨ a % 3 = 1 ∨ a % 3 = 2 := by lia
  rcases h1 with h1 | h1 | h1 <;> rcases h2 with h2 | h2 | h2 <;> simp [h1, h2, fwdS] at hf <;> lia
theorem light_unit {h : Int} (h1 : 0 ≤ h) (h2 : h < 64) : hueOk h = true ∧ lightS h = unitL (h % 3).toNat := by
  have := light_all ⟨h.toNat, by lia⟩
  have e : ((⟨h.toNat, by lia⟩ : Fin 64).val : Int) = h := by simp; lia
  rw [e] at this
  refine ⟨this.1, this.2.trans ?_⟩
  unfold unitL
  simp only
  have : (h % 3).toNat = h.toNat % 3 := by lia
  rw [this]
theorem lack_fwd {h a : Int} (h1 : 0 ≤ h) (h2 : h < 64) (a1 : 0 ≤ a) (a2 : a < 64) (hf : fwdS (hueOf h) (hueOf a) = true) :
    ∃ l0 l1 l2 s mm e, lackL (lightS h) (lightS a) = [l0, l1, l2] ∧ rgbOk (.int l0) (.int l1) (.int l2) = true ∧ Float64.decode (Float64.add (Float64.mul (rgbH (.int l0) (.int l1) (.int l2)) (Float64.ofInt 3)) flh) = .fin s mm e ∧ hueOf (Float64.truncOf s mm e) = hueOf (h + 2) := by
  have hs := fwd_step hf
  have e : ∀ x : Int, x.fmod 3 = x % 3 := fun x => Int.fmod_eq_emod_of_nonneg _ (by decide)
  rw [e, e] at hs
  have hj : (h % 3).toNat < 3 := by lia
  have := lack_all ⟨(h % 3).toNat, hj⟩
  simp only at this
  obtain ⟨t1, t2, t3⟩ := this
  rw [(light_unit h1 h2).2, (light_unit a1 a2).2, show (a % 3).toNat = ((h % 3).toNat + 1) % 3 by lia]
  obtain ⟨s, mm, ex, hd, he⟩ := fin_of t2
  refine ⟨_, _, _, s, mm, ex, rfl, t1, hd, ?_⟩
  rw [← he, t3, hueOf_mod, hueOf_mod (h + 2), e, e]
  congr 1; lia

/- _law_raise -/
section
variable {C : Cx} {A : Around} {L : Addr} {m : Loc} {H H₀ : HS} {Q : AV → HS → Prop} {F : Frag}
noncomputable abbrev nmRow : List (Str × NameKind) := [(".0", .local), ("name", .local), ("row", .local)]
theorem occ_is {p : Nat} (h : p < 6) : ∃ rest, Builtin.Str.occurrences (Str.ofString "abcdef") (ofL [97 + p]) 0 (Str.ofString "abcdef").length 1 = p :: rest := by
  have : p = 0 ∨ p = 1 ∨ p = 2 ∨ p = 3 ∨ p = 4 ∨ p = 5 := by lia
  rcases this with rfl | rfl | rfl | rfl | rfl | rfl <;> exact ⟨[], by decide +kernel⟩
theorem hueOf_is (h : Int) : isHue (hueOf h) := by unfold hueOf isHue; split <;> (try split) <;> simp
theorem esS_mem {n : Nat} {ns : List Nat} {hs : List Int} (ok : NsOk n ns) : ∀ e ∈ esS ns hs, e.1 ∈ lettersL := fun e he => by
  obtain ⟨c, hc, rfl⟩ := List.mem_map.mp he; exact (ok.mem c hc).1
theorem esS_nd {n : Nat} {ns : List Nat} {hs : List Int} (ok : NsOk n ns) : ((esS ns hs).map fun e => lowC e.1).Nodup := by unfold esS; rw [List.map_map]; exact ok.nd
theorem esS_len {n : Nat} {ns : List Nat} {hs : List Int} (ok : NsOk n ns) : (esS ns hs).length = n := by unfold esS; rw [List.length_map, ok.len]
theorem K_raise (K : KX C) (Kh : KH C F) {d : Nat} (R : Rm A (d + 4)) {b1 dx1 b2 dx2 : Addr} {tk1 tk2 : Tok} {l1 l2 : Addr} {ts1 ts2 : List Addr} {n : Nat} {ns1 ns2 : List Nat} {hs1 hs2 : List Int}
    (hsub : Sub (hT C b1 dx1 tk1 l1 ts1 (esS ns1 hs1) ++ (hT C b2 dx2 tk2 l2 ts2 (esS ns2 hs2) ++ H₀)) H) (hn1 : 1 ≤ n) (hn : n ≤ 6) (k1 : NsOk n ns1) (k2 : NsOk n ns2) (t1 : ts1.length = n) (t2 : ts2.length = n) (g1 : hs1.length = n)
    (r1 : ∀ p, p < n → 8 ≤ hs1.getD p 0 ∧ hs1.getD p 0 < 30) (r2 : ∀ p, p < n → 8 ≤ hs2.getD p 0 ∧ hs2.getD p 0 < 32)
    (h : match findR n hs1 hs2 ns1 with
      | none => Q (.bool false) (hT C b1 dx1 tk1 l1 ts1 (esS ns1 hs1) ++ (hT C b2 dx2 tk2 l2 ts2 (esS ns2 hs2) ++ H₀))
      | some c => ∀ ts', ts'.length = n → Q (.bool true) (hT C b1 dx1 tk1 l1 ts' (esS (nsR ns1 c) (hsR hs1 c)) ++ (hT C b2 dx2 tk2 l2 ts2 (esS ns2 hs2) ++ H₀))) :
    OPL C A (fun Vs => call (.ref 315) Vs) [.ref b1, .ref b2] L m H Q := by
  generalize hT2 : hT C b2 dx2 tk2 l2 ts2 (esS ns2 hs2) = T2 at hsub h
  generalize hT1 : hT C b1 dx1 tk1 l1 ts1 (esS ns1 hs1) = T1 at hsub h
  refine OPL.sub hsub ?_
  refine FnK.call K.f_raise K.G R ["book", "other", "name", "row", "rows", "tops", "place", "behind", "ahead", "lack", "paint"] rfl (by decide +kernel) fun env cs hc E => ?_
  obtain ⟨co, cb, rfl⟩ : ∃ co cb, cs = [co, cb] := by
    rcases cs with _ | ⟨x, _ | ⟨y, _ | ⟨z, r⟩⟩⟩ <;> first | exact ⟨_, _, rfl⟩ | (exact absurd hc (by simp [cellNames]))
  replace E : EnvOk env nm_raise [("own", co), ("by", cb)] := E
  show BNDA C A.in1 env [("book", .ref b1), ("other", .ref b2)] [("book", .undef), ("other", .undef), ("name", .undef), ("row", .undef), ("rows", .undef), ("tops", .undef), ("place", .undef), ("behind", .undef), ("ahead", .undef), ("lack", .undef), ("paint", .undef)] ((co, .cell .undef) :: (cb, .cell .undef) :: (L, .ns m) :: (T1 ++ (T2 ++ H₀))) _
  simp only [BNDA]
  refine STN.loc E (by wtm_at "a") (by wtm_at "a") (STN.loc E (by wtm_at "a") (by wtm_at "a") ?_)
  conv => arg 3; whnf
  have hh : (A.deeper env).handled = none := R.handled
  have i1 : ∀ q ∈ hT C b1 dx1 tk1 l1 ts1 (esS ns1 hs1), q ∈ T1 ++ (T2 ++ H₀) := fun q hq => List.mem_append_left _ (hT1 ▸ hq)
  have i2 : ∀ q ∈ hT C b2 dx2 tk2 l2 ts2 (esS ns2 hs2), q ∈ T1 ++ (T2 ++ H₀) := fun q hq => List.mem_append_right _ (List.mem_append_left _ (hT2 ▸ hq))
  have le1 : ts1.length = (esS ns1 hs1).length := by rw [esS_len k1, t1]
  have le2 : ts2.length = (esS ns2 hs2).length := by rw [esS_len k2, t2]
  refine EB.assignDictComp (snames := nmRow) (names' := nmRow) (cls := []) (locs := [".0", "name", "row"]) E (compSt0 rfl rfl rfl (by decide +kernel)) (by wtm_at "a") (by decide +kernel) (by decide +kernel) ?_
  refine EV.methH0 (fa := 208) Kh.X Kh.f (by simp [mths]) ?_
  repeat wtm_at "n"
  refine ⟨_, _, rfl, (hT_hi i1).tail.tail.tail, ?_⟩
  refine K_items K Kh (R.deeper env) (hT_hi i1).tail.tail.tail (.tail _ (.tail _ (.tail _ (hT_list i1)))) (by rw [List.length_map]; lia) fun w1 => ?_
  refine DCQ.rows (fun _ => rfl) hh (.head _) (fun i t e x y => .tail _ (.tail _ (.tail _ (.tail _ (hT_tup i1 x y))))) le1 (by rw [← le1]; lia) (esS_mem k1) (esS_nd k1) fun d1 => ?_
  wtm_at "n"
  refine EB.assignDictComp (snames := nmRow) (names' := nmRow) (cls := []) (locs := [".0", "name", "row"]) E (compSt0 rfl rfl rfl (by decide +kernel)) (by wtm_at "a") (by decide +kernel) (by decide +kernel) ?_
  refine EV.methH0 (fa := 208) Kh.X Kh.f (by simp [mths]) ?_
  repeat wtm_at "n"
  refine ⟨_, _, rfl, (hT_hi i2).tail.tail.tail.tail.tail, ?_⟩
  refine K_items K Kh (R.deeper env) (hT_hi i2).tail.tail.tail.tail.tail (.tail _ (.tail _ (.tail _ (.tail _ (.tail _ (hT_list i2)))))) (by rw [List.length_map]; lia) fun w2 => ?_
  refine DCQ.rows (fun _ => rfl) hh (.head _) (fun i t e x y => .tail _ (.tail _ (.tail _ (.tail _ (.tail _ (.tail _ (hT_tup i2 x y))))))) le2 (by rw [← le2]; lia) (esS_mem k2) (esS_nd k2) fun d2 => ?_
  wtm_at "n"
  refine EB.sub (H' := (d2, .dict (rowsD (esS ns2 hs2))) :: (d1, .dict (rowsD (esS ns1 hs1))) :: (co, .cell .undef) :: (cb, .cell .undef) :: (L, .ns m) :: (T1 ++ (T2 ++ H₀))) (by wtm_at "sub") ?_
  repeat wtm_at "n"
  refine EV.methH0 (fa := 196) Kh.X Kh.f (by simp [mths]) ?_
  repeat wtm_at "n"
  refine ⟨_, _, rfl, (hT_hi i1).tail.tail.tail.tail.tail, ?_⟩
  refine K_keys K Kh (R.deeper env) (fun q hq => .tail _ (.tail _ (.tail _ (.tail _ (.tail _ (i1 q hq)))))) le1 (by rw [← le1]; lia) fun kw => ?_
  have hkeys : ((esS ns1 hs1).map fun e => AV.str (ofL [e.1])) = ns1.map fun c => AV.str (ofL [c]) := by unfold esS; rw [List.map_map]; rfl
  rw [hkeys]
  obtain ⟨J1, hJ1⟩ : ∃ J : Nat → Loc → HS → Prop, ∀ i m' H', J i m' H' ↔ (∀ P : Prop, (∀ v1 v2 v3 v4 v5, findR n hs1 hs2 (ns1.drop i) = findR n hs1 hs2 ns1 → m' = ([("book", .ref b1), ("other", .ref b2), ("name", v1), ("row", v2), ("rows", .ref d1), ("tops", .ref d2), ("place", v3), ("behind", v4), ("ahead", v5), ("lack", .undef), ("paint", .undef)] : Loc) → H' = (kw, .list (ns1.map fun c => .str (ofL [c]))) :: (d2, .dict (rowsD (esS ns2 hs2))) :: (d1, .dict (rowsD (esS ns1 hs1))) :: (co, .cell .undef) :: (cb, .cell .undef) :: (L, .ns m) :: (T1 ++ (T2 ++ H₀)) → P) → P) := ⟨_, fun _ _ _ => Iff.rfl⟩
  refine forL (xs := ns1.map fun c => .str (ofL [c])) J1 (.head _) hh ((hJ1 _ _ _).mpr fun _ kk => kk _ _ _ _ _ rfl rfl rfl) ?_ (fun i x m' H' hx hj => ?_) fun m' H' hj => ?_
  · intro i m' H' hj; refine (hJ1 _ _ _).mp hj _ fun _ _ _ _ _ _ _ ee1 => ?_; subst ee1; exact .head _
  · refine (hJ1 _ _ _).mp hj _ fun v1 v2 v3 v4 v5 hf ee1 ee2 => ?_
    subst ee1; subst ee2
    rw [List.getElem?_map, Option.map_eq_some_iff] at hx
    obtain ⟨c, hx, rfl⟩ := hx
    have hci : c ∈ ns1 := List.mem_of_getElem? hx
    obtain ⟨hlet, h97, hpn⟩ := k1.mem c hci
    have hdrop : ns1.drop i = c :: ns1.drop (i + 1) := by
      have h1 := (List.getElem?_eq_some_iff.mp hx).1
      rw [List.drop_eq_getElem_cons h1, (List.getElem?_eq_some_iff.mp hx).2]
    rw [hdrop, findR] at hf
    obtain ⟨p, hp⟩ : ∃ p, lowC c = 97 + p := ⟨lowC c - 97, by omega⟩
    have hpn' : p < n := by lia
    have hlow := low_is c hlet
    rw [hp] at hlow
    rw [hp, show 97 + p - 97 = p by lia] at hf
    obtain ⟨rest, hocc⟩ := occ_is (show p < 6 by lia)
    have hbn : (p + n - 1) % n < n := Nat.mod_lt _ hn1
    have han : (p + 1) % n < n := Nat.mod_lt _ hn1
    have gRow := esS_get (hs := hs1) k1 hpn'
    have gTop := esS_get (hs := hs2) k2 hpn'
    have gBeh := esS_get (hs := hs1) k1 hbn
    have gAhe := esS_get (hs := hs1) k1 han
    have lB := let_of (show (p + n - 1) % n < 6 by lia)
    have lA := let_of (show (p + 1) % n < 6 by lia)
    repeat wtm_at "n"
    refine EV.index ?_
    repeat wtm_at "n"
    refine ⟨_, rfl, ?_⟩
    refine EV.lower ?_
    repeat wtm_at "n"
    refine ⟨_, _, rfl, hlow, one_short _, ?_⟩
    refine ⟨_, p, rest, rfl, hocc, ?_⟩
    repeat wtm_at "n"
    refine EV.lower ?_
    repeat wtm_at "n"
    refine ⟨_, _, rfl, hlow, one_short _, ?_⟩
    refine SUB.dict (by wtm_at "m") gRow ?_
    repeat wtm_at "n"
    refine CB.lenDict K.G (by wtm_at "m") (by unfold rowsD; rw [List.length_map, esS_len k1]; lia) ?_
    refine vI (b := n) (congrArg Nat.cast (show (rowsD (esS ns1 hs1)).length = n by unfold rowsD; rw [List.length_map, esS_len k1])) ?_
    repeat wtm_at "n"
    refine OP.fmod (by lia) ?_
    refine vI (show ((p : Int) - 1).fmod (n : Int) = (((p + n - 1) % n : Nat) : Int) by
      rw [Int.fmod_eq_emod_of_nonneg _ (by lia), Int.natCast_emod, show ((p + n - 1 : Nat) : Int) = ((p : Int) - 1) + n by lia, Int.add_emod_right]) ?_
    refine SUB.str (j := (p + n - 1) % n) (c := 97 + (p + n - 1) % n) (seqIdx_nat (n := 6) (by lia)) lB.2.2 ?_
    refine SUB.dict (by wtm_at "m") gBeh ?_
    repeat wtm_at "n"
    refine CB.lenDict K.G (by wtm_at "m") (by unfold rowsD; rw [List.length_map, esS_len k1]; lia) ?_
    refine vI (b := n) (congrArg Nat.cast (show (rowsD (esS ns1 hs1)).length = n by unfold rowsD; rw [List.length_map, esS_len k1])) ?_
    repeat wtm_at "n"
    refine OP.fmod (by lia) ?_
    refine vI (show ((p : Int) + 1).fmod (n : Int) = (((p + 1) % n : Nat) : Int) by
      rw [Int.fmod_eq_emod_of_nonneg _ (by lia), Int.natCast_emod, Int.natCast_add]; rfl) ?_
    refine SUB.str (j := (p + 1) % n) (c := 97 + (p + 1) % n) (seqIdx_nat (n := 6) (by lia)) lA.2.2 ?_
    refine SUB.dict (by wtm_at "m") gAhe ?_
    have q0 := r1 p hpn'
    have q1 := r1 _ hbn
    have q2 := r1 _ han
    have q3 := r2 p hpn'
    have hcond : condR n hs1 hs2 p = (decide (hs1.getD p 0 < hs2.getD p 0) && (hueOf (hs1.getD ((p + n - 1) % n) 0) == hueOf (hs1.getD ((p + 1) % n) 0) && fwdS (hueOf (hs1.getD p 0)) (hueOf (hs1.getD ((p + 1) % n) 0)))) := rfl
    rw [hcond] at hf
    have hset : hsR hs1 c = hs1.set p (hs1.getD p 0 + 2) := by unfold hsR; rw [hp, show 97 + p - 97 = p by lia]
    have hesR := esS_raise (hs := hs1) k1 g1 hci
    rw [hp, show 97 + p - 97 = p by lia] at hesR
    clear hcond gRow gBeh gAhe hbn han lB lA
    generalize hs1.getD ((p + n - 1) % n) 0 = hb at hf q1 ⊢
    generalize hs1.getD ((p + 1) % n) 0 = ha at hf q2 ⊢
    generalize hs2.getD p 0 = ht at hf q3 gTop ⊢
    generalize hh0 : hs1.getD p 0 = h0 at hf q0 hset hesR ⊢
    have lrow : ∀ x : Int, (rowS x).length = x.toNat + 1 := fun x => by unfold rowS; rw [List.length_append, dots_len]; rfl
    have lastr : ∀ x : Int, (ofL (rowS x)).cps[x.toNat]? = some (hueOf x) := fun x => by
      show (rowS x).toArray[x.toNat]? = _
      rw [List.getElem?_toArray]; unfold rowS
      rw [List.getElem?_append_right (by rw [dots_len]; lia), dots_len]; simp
    have idx1 : ∀ x : Int, seqIndex? (-1) (ofL (rowS x)).length = some x.toNat := fun x => by
      rw [ofL_len, lrow]
      have := seqIdx_neg (n := x.toNat + 1) (by lia)
      rw [show (((0 : Nat) : Int) - 1) = -1 by decide] at this
      rw [this]; rfl
    repeat wtm_at "n"
    refine CB.lenStr (by rw [ofL_len, lrow]; lia) ?_
    refine vI (congrArg Nat.cast ((ofL_len _).trans (lrow _))) ?_
    repeat wtm_at "n"
    refine EV.lower ?_
    repeat wtm_at "n"
    refine ⟨_, _, rfl, hlow, one_short _, ?_⟩
    refine SUB.dict (by wtm_at "m") gTop ?_
    repeat wtm_at "n"
    refine CB.lenStr (by rw [ofL_len, lrow]; lia) ?_
    refine vI (congrArg Nat.cast ((ofL_len _).trans (lrow _))) ?_
    repeat wtm_at "n"
    rw [show decide (((h0.toNat + 1 : Nat) : Int) < ((ht.toNat + 1 : Nat) : Int)) = decide (h0 < ht) by rw [decide_eq_decide]; lia]
    have next : ∀ v2 v3 v4 v5, (if (decide (h0 < ht) && (hueOf hb == hueOf ha && fwdS (hueOf h0) (hueOf ha))) = true then some c else findR n hs1 hs2 (List.drop (i + 1) ns1)) = findR n hs1 hs2 (List.drop (i + 1) ns1) →
        J1 (i + 1) ([("book", .ref b1), ("other", .ref b2), ("name", .str (ofL [c])), ("row", v2), ("rows", .ref d1), ("tops", .ref d2), ("place", v3), ("behind", v4), ("ahead", v5), ("lack", .undef), ("paint", .undef)] : Loc) ((kw, .list (ns1.map fun c => .str (ofL [c]))) :: (d2, .dict (rowsD (esS ns2 hs2))) :: (d1, .dict (rowsD (esS ns1 hs1))) :: (co, .cell .undef) :: (cb, .cell .undef) :: (L, .ns m) :: (T1 ++ (T2 ++ H₀))) :=
      fun v2 v3 v4 v5 e => ((hJ1 _ _ _).mpr fun _ kk => kk _ v2 v3 v4 v5 (e.symm.trans hf) rfl rfl)
    cases hc1 : decide (h0 < ht)
    · refine ifF rfl (ifF rfl ?_)
      exact EB.nil (EB.nil (next _ _ _ _ (by rw [hc1]; rfl)))
    refine ifT rfl ?_
    repeat wtm_at "n"
    refine SUB.str (idx1 hb) (lastr hb) ?_
    repeat wtm_at "n"
    refine SUB.str (idx1 ha) (lastr ha) ?_
    rw [show (⟨#[hueOf hb]⟩ : Str) = ofL [hueOf hb] from rfl, show (⟨#[hueOf ha]⟩ : Str) = ofL [hueOf ha] from rfl]
    repeat wtm_at "n"
    rw [ofL_beq, show ([hueOf hb] == [hueOf ha]) = (hueOf hb == hueOf ha) by simp]
    cases hc2 : (hueOf hb == hueOf ha)
    · refine ifF rfl (ifF rfl ?_)
      exact EB.nil (EB.nil (next _ _ _ _ (by rw [hc1, hc2]; rfl)))
    refine ifT rfl ?_
    repeat wtm_at "n"
    refine SUB.str (idx1 h0) (lastr h0) ?_
    repeat wtm_at "n"
    refine SUB.str (idx1 ha) (lastr ha) ?_
    rw [show (⟨#[hueOf h0]⟩ : Str) = ofL [hueOf h0] from rfl, show (⟨#[hueOf ha]⟩ : Str) = ofL [hueOf ha] from rfl]
    refine OP.adds (by rw [ofL_len, ofL_len, sizeLine_eq]; exact (by decide : 1 + 1 ≤ 16777216)) ?_
    rw [ofL_app]
    repeat wtm_at "n"
    refine OP.ins ?_
    rw [show [hueOf h0] ++ [hueOf ha] = [hueOf h0, hueOf ha] from rfl, fwd_ok (hueOf_is h0) (hueOf_is ha)]
    repeat wtm_at "n"
    cases hc3 : fwdS (hueOf h0) (hueOf ha)
    · refine ifF rfl ?_
      exact EB.nil (EB.nil (next _ _ _ _ (by rw [hc1, hc2, hc3]; rfl)))
    refine ifT rfl ?_
    rw [hc1, hc2, hc3] at hf
    rw [← hf, if_pos (by rfl)] at h
    obtain ⟨x0, x1, x2, sg, mm, ex, hlk, hrgb, hdec, hpaint⟩ := lack_fwd (h := h0) (a := ha) (by lia) (by lia) (by lia) (by lia) hc3
    have lu1 := light_unit (h := h0) (by lia) (by lia)
    have lu2 := light_unit (h := ha) (by lia) (by lia)
    have ul : ∀ j, (unitL j).length = 3 := fun j => by unfold unitL; split <;> (try split) <;> rfl
    have ll1 : (lightS h0).length = 3 := by rw [lu1.2, ul]
    have ll2 : (lightS ha).length = 3 := by rw [lu2.2, ul]
    repeat wtm_at "n"
    refine EV.callK K.f_light ?_
    repeat wtm_at "n"
    refine ⟨rfl, ?_⟩
    repeat wtm_at "n"
    refine CB.lenStr (by rw [ofL_len, lrow]; lia) ?_
    refine vI (congrArg Nat.cast ((ofL_len _).trans (lrow _))) ?_
    repeat wtm_at "n"
    rw [show ((h0.toNat + 1 : Nat) : Int) - 1 = h0 by lia]
    refine K_light K (R.deeper env) lu1.1 fun ao => ?_
    repeat wtm_at "n"
    refine EV.callK K.f_light ?_
    repeat wtm_at "n"
    refine ⟨rfl, ?_⟩
    repeat wtm_at "n"
    refine CB.lenStr (by rw [ofL_len, lrow]; lia) ?_
    refine vI (congrArg Nat.cast ((ofL_len _).trans (lrow _))) ?_
    repeat wtm_at "n"
    rw [show ((ha.toNat + 1 : Nat) : Int) - 1 = ha by lia]
    refine K_light K (R.deeper env) lu2.1 fun ab => ?_
    wtm_at "n"
    refine EB.assignListComp (snames := nm_raise_c3) (names' := [(".0", .local), ("k", .local), ("by", .cell), ("own", .cell)]) (cls := [("by", cb), ("own", co)]) (locs := [".0", "k"]) E (compSt1 rfl rfl rfl (by decide +kernel) (by simp only [List.map_cons, List.map_nil]; decide +kernel) ?_) (by wtm_at "a") (by decide +kernel) (by decide +kernel) ?_
    · intro q hq
      simp only [List.mem_cons, List.mem_nil_iff, or_false] at hq
      rcases hq with rfl | rfl
      · exact ⟨by wtm_at "a", by wtm_at "a", by show (Str.ofString "by", NameKind.free) ∈ _; wtm_at "m"⟩
      · exact ⟨by wtm_at "a", by wtm_at "a", by show (Str.ofString "own", NameKind.free) ∈ _; wtm_at "m"⟩
    repeat wtm_at "n"
    refine CB.range1 fun r => ?_
    refine LCQ.pure (xs := rangeL 0 1 3) ((lackL (lightS h0) (lightS ha)).map .int) (ITERS.range hh (.tail _ (.head _)) (small01 (n := 3) (by decide)) (size01 3)) (fun _ => trivial) (by rw [rangeL_len]; simp [lackL]) (by rw [rangeL_len]; decide) rfl (fun cenv E' k y z hy hz => ?_) fun lk => ?_
    · obtain ⟨hk, rfl⟩ := rangeL_get hy
      rw [show (0 : Int) + ↑k * 1 = ↑k by lia]
      simp only [List.map_cons, List.map_nil]
      repeat wtm_at "n"
      refine SUB.list (by wtm_at "m") (j := k) (x := .int ((lightS h0).getD k 0)) ?_ ?_ ?_
      · rw [List.length_map, ll1]; exact seqIdx_nat hk
      · rw [List.getElem?_map, List.getD_eq_getElem?_getD, List.getElem?_eq_getElem (by lia)]; rfl
      repeat wtm_at "n"
      refine SUB.list (by wtm_at "m") (j := k) (x := .int ((lightS ha).getD k 0)) ?_ ?_ ?_
      · rw [List.length_map, ll2]; exact seqIdx_nat hk
      · rw [List.getElem?_map, List.getD_eq_getElem?_getD, List.getElem?_eq_getElem (by lia)]; rfl
      repeat wtm_at "n"
      refine ⟨?_, rfl, Sub.refl⟩
      unfold lackL at hz
      rw [List.map_map, List.getElem?_map, Option.map_eq_some_iff] at hz
      obtain ⟨j, hj, rfl⟩ := hz
      rw [List.getElem?_range hk] at hj
      cases hj; rfl
    rw [hlk]
    simp only [List.map_cons, List.map_nil]
    wtm_at "n"
    refine EB.sub (H' := (lk, .list [.int x0, .int x1, .int x2]) :: (L, .ns m) :: (T1 ++ (T2 ++ H₀))) (by wtm_at "sub") ?_
    repeat wtm_at "n"
    refine EV.callK K.f_rgb ?_
    repeat wtm_at "n"
    refine ⟨rfl, ?_⟩
    repeat wtm_at "n"
    refine SUB.list (by wtm_at "m") (j := 0) (x := .int x0) rfl rfl ?_
    repeat wtm_at "n"
    refine SUB.list (by wtm_at "m") (j := 1) (x := .int x1) rfl rfl ?_
    repeat wtm_at "n"
    refine SUB.list (by wtm_at "m") (j := 2) (x := .int x2) rfl rfl ?_
    repeat wtm_at "n"
    refine K_rgb K (R.deeper env) .int hrgb fun t s' v' => ?_
    repeat wtm_at "n"
    refine SUB.tup (by wtm_at "m") (j := 0) (x := .flt (rgbH (.int x0) (.int x1) (.int x2))) (by rfl) (by rfl) ?_
    repeat wtm_at "n"
    refine OP.mulfi (by decide +kernel) ?_
    repeat wtm_at "n"
    refine OP.addf ?_
    repeat wtm_at "n"
    refine CB.intf hdec ?_
    repeat wtm_at "n"
    refine OP.fmod (by decide) ?_
    refine SUB.hue ?_
    rw [hpaint]
    wtm_at "n"
    obtain ⟨kn, rfl⟩ : ∃ kn : Nat, h0 = (kn : Int) := ⟨h0.toNat, by lia⟩
    have hrow2 : rowS ((kn : Int) + 2) = dots (kn + 1 + 1) ++ [hueOf ((kn : Int) + 2)] := by
      unfold rowS; rw [show ((kn : Int) + 2).toNat = kn + 1 + 1 by lia]
    rw [hrow2] at hesR
    have htake : (rowS (kn : Int)).take ((rowS (kn : Int)).length - 1) = dots kn := by
      rw [lrow]; unfold rowS; rw [Int.toNat_natCast, show kn + 1 - 1 = (dots kn).length by rw [dots_len]; lia, List.take_left]
    repeat wtm_at "n"
    refine EV.callK K.f_quote ?_
    repeat wtm_at "n"
    refine ⟨rfl, ?_⟩
    wtm_at "n"
    refine EV.callK K.f_quote ?_
    repeat wtm_at "n"
    refine ⟨rfl, ?_⟩
    wtm_at "n"
    refine EV.sliceS ?_
    repeat wtm_at "n"
    refine EP.none (EP.some ?_)
    repeat wtm_at "n"
    have hpk : pickS (ofL (rowS (kn : Int))) none (some (-1)) = ofL (dots kn) := by
      rw [pickS_last (by rw [lrow]; lia), htake]
    refine ⟨_, rfl, _, rfl, ?_, ?_⟩
    · rw [hpk, ofL_len, dots_len]; lia
    rw [hpk]
    repeat wtm_at "n"
    refine K_quote K Kh (R.deeper env) (by lia) (by lia) ?_
    repeat wtm_at "n"
    refine K_quote K Kh (R.deeper env) (by lia) (by lia) ?_
    repeat wtm_at "n"
    refine OP.adds (by rw [ofL_len, ofL_len, dots_len, sizeLine_eq]; show kn + 1 + 1 + 1 ≤ _; lia) ?_
    rw [ofL_app]
    repeat wtm_at "n"
    refine EV.swapcase ?_
    repeat wtm_at "n"
    refine ⟨_, _, rfl, swap_is c hlet, one_short _, ?_⟩
    refine ST.inst Kh.X Kh.f (hT_hi i1).tail.tail.tail ?_
    refine K_hset (c := swapC c) (k := kn + 1 + 1) (p := hueOf ((kn : Int) + 2)) K Kh (R.deeper env) (b := b1) (dx := dx1) (tk := tk1) (l := l1) (ts := ts1) (es := esS ns1 hs1) (H₀ := (L, .ns m) :: (T2 ++ H₀)) ?_ le1 (by rw [← le1]; lia) (swap_let c hlet).1 (esS_mem k1) (by lia) (by lia) (hue_in _) fun ts' hts' => ?_
    · rw [hT1]
      exact Sub.drop (Sub.drop (Sub.of_perm (List.perm_middle (l₁ := T1))))
    rw [hesR] at hts' ⊢
    rw [esS_len (nsR_ok k1 hci)] at hts'
    repeat wtm_at "n"
    exact ⟨_, Sub.of_perm (List.perm_middle (l₁ := hT C b1 dx1 tk1 l1 ts' (esS (nsR ns1 c) (hsR hs1 c)))).symm, h ts' hts'⟩
  · refine (hJ1 _ _ _).mp hj _ fun v1 v2 v3 v4 v5 hf ee1 ee2 => ?_
    subst ee1; subst ee2
    rw [List.length_map, List.drop_length] at hf
    rw [← hf] at h
    repeat wtm_at "n"
    exact ⟨_, by wtm_at "sub", h⟩
end

/- two rings of heights: what a raise keeps, and where none is left -/
structure Ring (n : Nat) (W : Int) (hs : List Int) : Prop where
  len : hs.length = n
  step : ∀ p, p < n → hs.getD ((p + 1) % n) 0 + (if p + 1 = n then W else 0) = hs.getD p 0 + 1 ∨ hs.getD ((p + 1) % n) 0 + (if p + 1 = n then W else 0) = hs.getD p 0 - 1
structure Pair (n : Nat) (W : Int) (f g : List Int) : Prop where
  one : Ring n W f
  two : Ring n W g
  par : ∀ p, p < n → (f.getD p 0 - g.getD p 0) % 2 = 0
  w3 : W % 3 = 0
  lo : -(n : Int) < W
  hi : W < n
structure Good (n : Nat) (f g : List Int) : Prop where
  lf : f.length = n
  lg : g.length = n
  rf : ∀ p, p < n → 8 ≤ f.getD p 0 ∧ f.getD p 0 < 30
  rg : ∀ p, p < n → 8 ≤ g.getD p 0 ∧ g.getD p 0 < 30
  is : f = g ∨ ∃ W, Pair n W f g
theorem Pair.symm {n : Nat} {W : Int} {f g : List Int} (h : Pair n W f g) : Pair n W g f := ⟨h.two, h.one, fun p hp => by have := h.par p hp; lia, h.w3, h.lo, h.hi⟩
theorem Good.symm {n : Nat} {f g : List Int} (h : Good n f g) : Good n g f := ⟨h.lg, h.lf, h.rg, h.rf, h.is.elim (fun e => .inl e.symm) fun ⟨W, e⟩ => .inr ⟨W, e.symm⟩⟩
/- the cover -/
noncomputable def cov (n : Nat) (W : Int) (hs : List Int) (i : Nat) : Int := hs.getD (i % n) 0 + W * (i / n : Nat)
theorem cov_step {n : Nat} {W : Int} {hs : List Int} (hn : 1 ≤ n) (R : Ring n W hs) (i : Nat) : cov n W hs (i + 1) = cov n W hs i + 1 ∨ cov n W hs (i + 1) = cov n W hs i - 1 := by
  have hl : i % n < n := Nat.mod_lt _ hn
  have h := R.step _ hl
  unfold cov
  by_cases e : i % n + 1 = n
  · rw [if_pos e, e, Nat.mod_self] at h
    have h1 : (i + 1) % n = 0 := by rw [Nat.add_mod_eq_add_mod_right 1 (Nat.mod_mod i n).symm, e, Nat.mod_self]
    have h2 : (i + 1) / n = i / n + 1 := by
      have := Nat.div_add_mod i n
      have e2 : i + 1 = n * (i / n + 1) := by rw [Nat.mul_add]; lia
      rw [e2, Nat.mul_div_cancel_left _ hn]
    rw [h1, h2, Int.natCast_add, Int.mul_add]
    generalize W * ((i / n : Nat) : Int) = z at *
    lia
  · rw [if_neg e] at h
    have hlt : i % n + 1 < n := by lia
    have h1 : (i + 1) % n = i % n + 1 := by rw [Nat.add_mod_eq_add_mod_right 1 (Nat.mod_mod i n).symm, Nat.mod_eq_of_lt hlt]
    have h2 : (i + 1) / n = i / n := by
      have := Nat.div_add_mod i n
      refine Nat.div_eq_of_lt_le ?_ ?_
      · rw [Nat.mul_comm]; lia
      · rw [Nat.mul_comm, Nat.mul_add]; lia
    rw [Nat.mod_eq_of_lt hlt] at h
    rw [h1, h2]
    lia
theorem cov_per {n : Nat} {W : Int} {hs : List Int} (hn : 1 ≤ n) (i : Nat) : cov n W hs (i + n) = cov n W hs i + W := by
  unfold cov
  rw [Nat.add_mod_right, Nat.add_div_right _ hn, Int.natCast_add, Int.mul_add]
  generalize W * ((i / n : Nat) : Int) = z
  lia
theorem fall_on {F G : Nat → Int} (sF : ∀ i, F (i + 1) = F i + 1 ∨ F (i + 1) = F i - 1) (sG : ∀ i, G (i + 1) = G i + 1 ∨ G (i + 1) = G i - 1)
    (nov : ∀ i, F (i + 1) < G (i + 1) → ¬(F i = F (i + 1) + 1 ∧ F (i + 2) = F (i + 1) + 1)) {i : Nat} (h : F i < G i) (d : F (i + 1) = F i - 1) : ∀ k, F (i + k + 1) = F i - k - 1 ∧ F (i + k + 1) < G (i + k + 1)
  | 0 => by have := sG i; exact ⟨by simpa using d, by show F (i + 1) < G (i + 1); omega⟩
  | k + 1 => by
    obtain ⟨a, b⟩ := fall_on sF sG nov h d k
    have n1 := nov _ b
    have s1 := sF (i + k + 1)
    have g1 := sG (i + k + 1)
    have hp : F (i + k) = F (i + k + 1) + 1 := by
      cases k with
      | zero => show F i = F (i + 1) + 1; lia
      | succ k =>
        have := (fall_on sF sG nov h d k).1
        show F (i + k + 1) = _
        rw [this, a]; push_cast; lia
    rw [show i + (k + 1) + 1 = i + k + 1 + 1 from rfl]
    rw [show i + k + 2 = i + k + 1 + 1 from rfl] at n1
    push_cast
    lia
theorem fall_back {F G : Nat → Int} (sF : ∀ i, F (i + 1) = F i + 1 ∨ F (i + 1) = F i - 1) (sG : ∀ i, G (i + 1) = G i + 1 ∨ G (i + 1) = G i - 1)
    (nov : ∀ i, F (i + 1) < G (i + 1) → ¬(F i = F (i + 1) + 1 ∧ F (i + 2) = F (i + 1) + 1)) : ∀ (k i : Nat), F (i + k + 1) < G (i + k + 1) → F (i + k) = F (i + k + 1) - 1 → F i = F (i + k + 1) - k - 1
  | 0, i, h, d => by simpa using d
  | k + 1, i, h, d => by
    have s1 := sF (i + k)
    have g1 := sG (i + k + 1)
    have h' : F (i + k + 1) < G (i + k + 1) := by
      rw [show i + (k + 1) + 1 = i + k + 1 + 1 from rfl, show i + (k + 1) = i + k + 1 from rfl] at *
      omega
    have n1 := nov _ h'
    rw [show i + k + 2 = i + (k + 1) + 1 from rfl] at n1
    rw [show i + (k + 1) = i + k + 1 from rfl] at d
    have := fall_back sF sG nov k i h' (by rw [show i + (k + 1) + 1 = i + k + 1 + 1 from rfl] at *; lia)
    rw [this]
    push_cast
    rw [show i + (k + 1) + 1 = i + k + 1 + 1 from rfl] at *
    lia
theorem cov_mod {n : Nat} {W : Int} (w3 : W % 3 = 0) (hs : List Int) (i : Nat) : (cov n W hs i) % 3 = hs.getD (i % n) 0 % 3 := by
  unfold cov
  rw [Int.add_emod, Int.mul_emod, w3]; simp
theorem hue_eq {a b : Int} : hueOf a = hueOf b ↔ a % 3 = b % 3 := by
  have e : ∀ x : Int, x.fmod 3 = x % 3 := fun x => Int.fmod_eq_emod_of_nonneg _ (by decide)
  unfold hueOf
  rw [e, e]
  have h1 : a % 3 = 0 ∨ a % 3 = 1 ∨ a % 3 = 2 := by lia
  have h2 : b % 3 = 0 ∨ b % 3 = 1 ∨ b % 3 = 2 := by lia
  rcases h1 with h1 | h1 | h1 <;> rcases h2 with h2 | h2 | h2 <;> simp [h1, h2]
theorem fwd_eq {h a : Int} : fwdS (hueOf h) (hueOf a) = true ↔ a % 3 = (h + 1) % 3 := by
  have e : ∀ x : Int, x.fmod 3 = x % 3 := fun x => Int.fmod_eq_emod_of_nonneg _ (by decide)
  unfold hueOf
  rw [e, e]
  have h1 : h % 3 = 0 ∨ h % 3 = 1 ∨ h % 3 = 2 := by lia
  have h2 : a % 3 = 0 ∨ a % 3 = 1 ∨ a % 3 = 2 := by lia
  rcases h1 with h1 | h1 | h1 <;> rcases h2 with h2 | h2 | h2 <;> simp [h1, h2, fwdS] <;> lia
theorem cond_true {n : Nat} {f g : List Int} {p : Nat} (h : condR n f g p = true) : f.getD p 0 < g.getD p 0 ∧ f.getD ((p + n - 1) % n) 0 % 3 = f.getD ((p + 1) % n) 0 % 3 ∧ f.getD ((p + 1) % n) 0 % 3 = (f.getD p 0 + 1) % 3 := by
  unfold condR at h
  rw [Bool.and_eq_true, Bool.and_eq_true, decide_eq_true_iff, beq_iff_eq, hue_eq, fwd_eq] at h
  exact h
theorem cond_of {n : Nat} {f g : List Int} {p : Nat} (h1 : f.getD p 0 < g.getD p 0) (h2 : f.getD ((p + n - 1) % n) 0 % 3 = f.getD ((p + 1) % n) 0 % 3) (h3 : f.getD ((p + 1) % n) 0 % 3 = (f.getD p 0 + 1) % 3) : condR n f g p = true := by
  unfold condR
  rw [Bool.and_eq_true, Bool.and_eq_true, decide_eq_true_iff, beq_iff_eq, hue_eq, fwd_eq]
  exact ⟨h1, h2, h3⟩
theorem set_get {f : List Int} {p q : Nat} {v : Int} (hp : p < f.length) : (f.set p v).getD q 0 = if q = p then v else f.getD q 0 := by
  rw [List.getD_eq_getElem?_getD, List.getD_eq_getElem?_getD]
  by_cases e : q = p
  · subst e; rw [List.getElem?_set_self hp, if_pos rfl]; rfl
  · rw [List.getElem?_set_ne (fun h => e h.symm), if_neg e]
theorem set_sum : ∀ {f : List Int} {p : Nat} {d : Int}, p < f.length → (f.set p (f.getD p 0 + d)).sum = f.sum + d
  | a :: f, 0, d, _ => by simp [List.sum_cons]; lia
  | a :: f, p + 1, d, h => by
    have := set_sum (f := f) (p := p) (d := d) (by simpa using h)
    rw [List.set_cons_succ, List.sum_cons, List.sum_cons, show (a :: f).getD (p + 1) 0 = f.getD p 0 from rfl, this]; lia
theorem mod_back {n p : Nat} (hn : 1 ≤ n) (hp : p < n) : ((p + n - 1) % n + 1) % n = p := by
  rcases Nat.eq_zero_or_pos p with rfl | h
  · rw [Nat.zero_add, Nat.mod_eq_of_lt (show n - 1 < n by omega), Nat.sub_add_cancel hn, Nat.mod_self]
  · rw [show p + n - 1 = (p - 1) + n by lia, Nat.add_mod_right, Nat.mod_eq_of_lt (show p - 1 < n by omega), Nat.sub_add_cancel h, Nat.mod_eq_of_lt hp]
theorem mod_fwd {n p q : Nat} (hn : 1 ≤ n) (hp : p < n) (hq : q < n) (h : (q + 1) % n = p) : q = (p + n - 1) % n := by
  by_cases e : q + 1 = n
  · rw [e, Nat.mod_self] at h; subst h
    rw [Nat.zero_add, Nat.mod_eq_of_lt (show n - 1 < n by lia)]; lia
  · rw [Nat.mod_eq_of_lt (show q + 1 < n by lia)] at h; subst h
    rw [show q + 1 + n - 1 = q + n by lia, Nat.add_mod_right, Nat.mod_eq_of_lt hq]
set_option tactic.hygienic true in
theorem cond_set {n : Nat} {f g : List Int} (hn : 2 ≤ n) (G : Good n f g) {p : Nat} (hp : p < n) (h : condR n f g p = true) :
    Good n (f.set p (f.getD p 0 + 2)) g ∧ f.getD p 0 + 2 ≤ g.getD p 0 := by
  obtain ⟨h1, h2, h3⟩ := cond_true h
  rcases G.is with rfl | ⟨W, P⟩
  · lia
  have hpl : p < f.length := by rw [G.lf]; exact hp
  have par := P.par p hp
  have rp := G.rf p hp
  have gp := G.rg p hp
  have w3 := P.w3
  have le : f.getD p 0 + 2 ≤ g.getD p 0 := by lia
  have sp := P.one.step p hp
  have hb : (p + n - 1) % n < n := Nat.mod_lt _ (by lia)
  have sb := P.one.step _ hb
  rw [mod_back (by lia) hp] at sb
  have up : f.getD ((p + 1) % n) 0 + (if p + 1 = n then W else 0) = f.getD p 0 + 1 := by split at sp <;> (split) <;> lia
  have dn : f.getD p 0 + (if (p + n - 1) % n + 1 = n then W else 0) = f.getD ((p + n - 1) % n) 0 - 1 := by split at sb <;> (split) <;> lia
  have ne : (p + 1) % n ≠ p := fun e => by
    by_cases e2 : p + 1 = n
    · rw [e2, Nat.mod_self] at e; lia
    · rw [Nat.mod_eq_of_lt (by lia)] at e; lia
  refine ⟨⟨by rw [List.length_set, G.lf], G.lg, fun q hq => ?_, G.rg, .inr ⟨W, ⟨by rw [List.length_set, G.lf], fun q hq => ?_⟩, P.two, fun q hq => ?_, w3, P.lo, P.hi⟩⟩, le⟩
  · rw [set_get hpl]; split
    · lia
    · exact G.rf q hq
  · rw [set_get hpl, set_get hpl]
    by_cases e : q = p
    · subst e
      rw [if_pos rfl, if_neg ne]; lia
    · rw [if_neg e]
      by_cases e2 : (q + 1) % n = p
      · obtain rfl := mod_fwd (by lia) hp hq e2
        rw [if_pos e2]; lia
      · rw [if_neg e2]; exact P.one.step q hq
  · rw [set_get hpl]; split
    · rename_i e; subst e; lia
    · exact P.par q hq
theorem cond_none {n : Nat} {f g : List Int} (hn : 1 ≤ n) (G : Good n f g) (no : ∀ p, p < n → condR n f g p = false) : ∀ p, p < n → g.getD p 0 ≤ f.getD p 0 := by
  rcases G.is with rfl | ⟨W, P⟩
  · exact fun p _ => Int.le_refl _
  intro p hp
  refine Int.not_lt.mp fun hlt => ?_
  have sF := cov_step hn P.one
  have sG := cov_step hn P.two
  have nov : ∀ i, cov n W f (i + 1) < cov n W g (i + 1) → ¬(cov n W f i = cov n W f (i + 1) + 1 ∧ cov n W f (i + 2) = cov n W f (i + 1) + 1) := by
    rintro i h1 ⟨h2, h3⟩
    have hl : (i + 1) % n < n := Nat.mod_lt _ hn
    have h := no _ hl
    have c0 := cov_mod (n := n) P.w3 f i
    have c1 := cov_mod (n := n) P.w3 f (i + 1)
    have c2 := cov_mod (n := n) P.w3 f (i + 2)
    have e1 : ((i + 1) % n + n - 1) % n = i % n := (mod_fwd hn hl (Nat.mod_lt _ hn) (by rw [Nat.mod_add_mod])).symm
    have e2 : ((i + 1) % n + 1) % n = (i + 2) % n := by rw [Nat.mod_add_mod]
    rw [cond_of (by unfold cov at h1; lia) (by rw [e1, e2]; lia) (by rw [e2]; lia)] at h
    cases h
  have e0 : (p + n) % n = p := by rw [Nat.add_mod_right, Nat.mod_eq_of_lt hp]
  have hj : cov n W f (p + n) < cov n W g (p + n) := by unfold cov; rw [e0]; lia
  have hper := cov_per (W := W) (hs := f) hn (p + n)
  have hper2 := cov_per (W := W) (hs := f) hn p
  have lo := P.lo
  have hi := P.hi
  have en : p + n = p + (n - 1) + 1 := by lia
  rcases sF (p + n) with u | u
  · have nv := nov (p + (n - 1))
    have sb := sF (p + (n - 1))
    rw [← en] at nv sb
    rw [show p + (n - 1) + 2 = p + n + 1 by lia] at nv
    have hb : cov n W f (p + (n - 1)) = cov n W f (p + n) - 1 := by have := nv hj; lia
    have := fall_back sF sG nov (n - 1) p (by rw [← en]; exact hj) (by rw [← en]; exact hb)
    rw [← en] at this
    lia
  · have := (fall_on sF sG nov hj u (n - 1)).1
    rw [show p + n + (n - 1) + 1 = p + n + n by lia] at this
    lia
theorem list_ext {n : Nat} {f g : List Int} (lf : f.length = n) (lg : g.length = n) (h : ∀ p, p < n → f.getD p 0 = g.getD p 0) : f = g := by
  apply List.ext_getElem (lf.trans lg.symm)
  intro i h1 h2
  have := h i (by lia)
  rw [List.getD_eq_getElem?_getD, List.getD_eq_getElem?_getD, List.getElem?_eq_getElem h1, List.getElem?_eq_getElem h2] at this
  exact this
theorem sum_le : ∀ {f g : List Int}, f.length = g.length → (∀ p, p < g.length → f.getD p 0 ≤ g.getD p 0) → f.sum ≤ g.sum
  | [], [], _, _ => Int.le_refl _
  | a :: f, b :: g, hl, h => by
    have h0 := h 0 (by simp)
    have := sum_le (f := f) (g := g) (by simpa using hl) fun p hp => h (p + 1) (by simpa using hp)
    rw [List.sum_cons, List.sum_cons]
    have : a ≤ b := h0
    lia
theorem findR_some {n : Nat} {f g : List Int} {c : Nat} : ∀ {ns : List Nat}, findR n f g ns = some c → c ∈ ns ∧ condR n f g (lowC c - 97) = true
  | d :: ns, h => by
    unfold findR at h
    split at h
    · cases h; exact ⟨.head _, ‹_›⟩
    · have := findR_some h; exact ⟨.tail _ this.1, this.2⟩
theorem findR_none {n : Nat} {f g : List Int} : ∀ {ns : List Nat}, findR n f g ns = none → ∀ c ∈ ns, condR n f g (lowC c - 97) = false
  | d :: ns, h, c, hc => by
    unfold findR at h
    split at h
    · cases h
    · rcases List.mem_cons.mp hc with rfl | hc
      · simpa using ‹¬ condR n f g _ = true›
      · exact findR_none h c hc
theorem stop_none {n : Nat} {f g : List Int} {ns : List Nat} (ok : NsOk n ns) (h : findR n f g ns = none) : ∀ p, p < n → condR n f g p = false := fun p hp => by
  obtain ⟨c, hc, e⟩ := ok.all p hp
  have := findR_none h c hc
  rwa [e, show 97 + p - 97 = p by lia] at this

/- _law_meet -/
noncomputable def lowsS (n : Nat) (hs ap : List Int) (turn : Int) : List Int := (List.range n).map fun k => hs.getD k 0 - ap.getD k 0 + 6 * turn
noncomputable def topsS (n : Nat) (f g : List Int) : List Int := (List.range n).map fun k => if g.getD k 0 > f.getD k 0 then g.getD k 0 else f.getD k 0
noncomputable def nsB (n start : Nat) : List Nat := (List.range n).map fun k => 97 + (start + k) % n
theorem range_get {n k : Nat} {f : Nat → Int} (h : k < n) : ((List.range n).map f).getD k 0 = f k := by
  rw [List.getD_eq_getElem?_getD, List.getElem?_map, List.getElem?_range h]; rfl
theorem bookS_is {n : Nat} {hs : List Int} (hl : hs.length = n) (h1 : 1 ≤ n) (h6 : n ≤ 6) (start : Nat) : bookS hs start = esS (nsB n start) hs := by
  unfold bookS esS nsB
  rw [hl, List.map_map]
  refine List.map_congr_left fun k hk => ?_
  have hq : (start + k) % n < 6 := Nat.lt_of_lt_of_le (Nat.mod_lt _ h1) h6
  show bookE hs start k = (97 + (start + k) % n, _)
  unfold bookE
  rw [hl, (let_of hq).2.1, show 97 + (start + k) % n - 97 = (start + k) % n by lia]
theorem nsB_ok {n : Nat} (h1 : 1 ≤ n) (h6 : n ≤ 6) (start : Nat) : NsOk n (nsB n start) := by
  have hlow : ∀ k, lowC (97 + (start + k) % n) = 97 + (start + k) % n := fun k => (let_of (Nat.lt_of_lt_of_le (Nat.mod_lt _ h1) h6)).2.1
  have hm : (nsB n start).map lowC = (List.range n).map fun k => 97 + (start + k) % n := by
    unfold nsB; rw [List.map_map]; exact List.map_congr_left fun k _ => hlow k
  refine ⟨by simp [nsB], fun c hc => ?_, ?_, fun p hp => ?_⟩
  · obtain ⟨k, hk, rfl⟩ := List.mem_map.mp hc
    have hl : (start + k) % n < n := Nat.mod_lt _ h1
    rw [hlow]
    exact ⟨(let_of (Nat.lt_of_lt_of_le hl h6)).1, by lia, by lia⟩
  · rw [hm]
    refine List.pairwise_map.mpr (List.Pairwise.imp_of_mem (fun {i j} hi hj hij e => ?_) List.pairwise_lt_range)
    exact mod_ne (s := start) (List.mem_range.mp hj) hij (by lia)
  · refine ⟨97 + p, List.mem_map.mpr ⟨(p + (n - start % n)) % n, List.mem_range.mpr (Nat.mod_lt _ h1), ?_⟩, (let_of (Nat.lt_of_lt_of_le hp h6)).2.1⟩
    have hs := Nat.mod_lt start h1
    rw [Nat.add_mod_mod]
    rw [← Nat.mod_add_mod, show start % n + (p + (n - start % n)) = p + n by lia, Nat.add_mod_right, Nat.mod_eq_of_lt hp]
theorem tops_comm (n : Nat) (f g : List Int) : topsS n f g = topsS n g f := List.map_congr_left fun k _ => by split <;> split <;> lia
theorem tops_len (n : Nat) (f g : List Int) : (topsS n f g).length = n := by simp [topsS]
theorem tops_ge {n : Nat} {f g : List Int} (lf : f.length = n) : f.sum ≤ (topsS n f g).sum := by
  refine sum_le (by rw [lf, tops_len]) fun p hp => ?_
  rw [tops_len] at hp
  unfold topsS; rw [range_get hp]; split <;> lia
theorem raise_step {n : Nat} {f g : List Int} {ns : List Nat} {c : Nat} (hn : 2 ≤ n) (G : Good n f g) (k : NsOk n ns) (h : findR n f g ns = some c) :
    c ∈ ns ∧ Good n (hsR f c) g ∧ topsS n (hsR f c) g = topsS n f g ∧ (hsR f c).sum = f.sum + 2 := by
  obtain ⟨hc, hcond⟩ := findR_some h
  obtain ⟨_, h97, hpn⟩ := k.mem c hc
  have hp : lowC c - 97 < n := by omega
  obtain ⟨g1, le⟩ := cond_set hn G hp hcond
  refine ⟨hc, g1, List.map_congr_left fun q hq => ?_, set_sum (by rw [G.lf]; exact hp)⟩
  show (if g.getD q 0 > (f.set _ _).getD q 0 then g.getD q 0 else (f.set _ _).getD q 0) = _
  rw [set_get (by rw [G.lf]; exact hp)]
  by_cases e : q = lowC c - 97
  · rw [if_pos e, e]; split <;> split <;> lia
  · rw [if_neg e]
theorem stop_eq {n : Nat} {f g : List Int} {ns1 ns2 : List Nat} (hn : 2 ≤ n) (G : Good n f g) (k1 : NsOk n ns1) (k2 : NsOk n ns2) (h1 : findR n f g ns1 = none) (h2 : findR n g f ns2 = none) : f = g ∧ topsS n f g = f := by
  have e : f = g := list_ext G.lf G.lg fun p hp => Int.le_antisymm (cond_none (by lia) G.symm (stop_none k2 h2) p hp) (cond_none (by lia) G (stop_none k1 h1) p hp)
  subst e
  refine ⟨rfl, list_ext (tops_len ..) G.lf fun p hp => ?_⟩
  unfold topsS; rw [range_get hp]; split <;> rfl
theorem fmod_nat {n : Nat} (h : 1 ≤ n) (x : Int) : x.fmod (n : Int) = ((x % (n : Int)).toNat : Nat) := by
  rw [Int.fmod_eq_emod_of_nonneg _ (by lia)]
  have := Int.emod_nonneg x (show (n : Int) ≠ 0 by lia)
  lia
noncomputable def metE (f : List Int) (i : Nat) : List (Str × AV) := (List.range i).map fun k => (ofL [97 + k], AV.str (ofL (rowS (f.getD k 0))))
theorem metE_len (f : List Int) (i : Nat) : (metE f i).length = i := by simp [metE]
theorem metE_set {f : List Int} {i : Nat} : dset (metE f i) (ofL [97 + i]) (.str (ofL (rowS (f.getD i 0)))) = metE f (i + 1) := by
  rw [dset_new]
  · unfold metE; rw [List.range_succ, List.map_append]; rfl
  · intro h
    obtain ⟨e, he, h⟩ := List.mem_map.mp h
    obtain ⟨k, hk, rfl⟩ := List.mem_map.mp he
    have := ofL_inj.mp h
    simp at this
    have := List.mem_range.mp hk
    lia
theorem metE_is {f : List Int} {n : Nat} (h1 : 1 ≤ n) (h6 : n ≤ 6) : metE f n = rowsD (esS (nsB n 0) f) := by
  unfold metE rowsD esS nsB
  rw [List.map_map, List.map_map]
  refine List.map_congr_left fun k hk => ?_
  have hk := List.mem_range.mp hk
  show _ = (ofL [lowC (97 + (0 + k) % n)], AV.str (ofL (rowS (f.getD (lowC (97 + (0 + k) % n) - 97) 0))))
  rw [Nat.zero_add, Nat.mod_eq_of_lt hk, (let_of (show k < 6 by lia)).2.1, show 97 + k - 97 = k by lia]
theorem rows_all {n : Nat} {ns ns' : List Nat} {f : List Int} (k : NsOk n ns) (k' : NsOk n ns') : ∀ kv ∈ rowsD (esS ns f), ∃ x, kv.2 = .str x ∧ dget (rowsD (esS ns' f)) kv.1 = some (.str x) := by
  intro kv hkv
  obtain ⟨e, he, rfl⟩ := List.mem_map.mp hkv
  obtain ⟨c, hc, rfl⟩ := List.mem_map.mp he
  obtain ⟨_, h97, hn⟩ := k.mem c hc
  refine ⟨_, rfl, ?_⟩
  have := esS_get (hs := f) k' (p := lowC c - 97) (by omega)
  rw [show 97 + (lowC c - 97) = lowC c by omega] at this
  exact this
section
variable {C : Cx} {A : Around} {L : Addr} {m : Loc} {H H₀ : HS} {Q : AV → HS → Prop} {F : Frag}
theorem Rm.in1 {n : Nat} (R : Rm A (n + 1)) : Rm A.in1 n := ⟨R.handled, by have := R.depth; show A.depth + n ≤ 900; lia, by have := R.units; show A.units + 1 + 30 * n ≤ 9000; lia⟩
theorem Sub.ins {T U X Y : HS} : Sub (T ++ (U ++ (X ++ Y))) (X ++ (T ++ (U ++ Y))) := Sub.trans (Sub.under' Sub.rot) Sub.rot
theorem Sub.outs {T U X Y : HS} : Sub (X ++ (T ++ (U ++ Y))) (T ++ (U ++ (X ++ Y))) := Sub.trans Sub.rot (Sub.under' Sub.rot)
theorem EV.weak {e : Expr} {env : Env} (h : EV C A e env m H fun v H₁ => ∃ H₂, Sub H₂ H₁ ∧ Q v H₂) : EV C A e env m H Q := fun F s Qc E S k => h F s Qc E S fun V H' h' t' ⟨v, H₁, e, i, H₂, sub, q⟩ S' => by
  subst e; exact k V _ h' t' ⟨v, H₂, rfl, i, q⟩ (Sub.cons sub _ _ _ S')
theorem Upd.app {X H' : HS} {l : Addr} {x y : AO} (h : Mine.Upd H l x y H') : Mine.Upd (X ++ H) l x y (X ++ H') := by
  induction X with
  | nil => exact h
  | cons p X ih => exact .tail ih
theorem Sub.right {X Y : HS} : Sub Y (X ++ Y) := Sub.of_sublist (List.sublist_append_right ..)
theorem K_meet (K : KX C) (Kh : KH C F) {k : Nat} (R : Rm A (k + 8)) {T U : HS} (hTi : TabI T) (hUd : TabD U) {ah aa : Addr} {hs ap : List Int} {steps start : Int} {n : Nat} (hsub : Sub (T ++ (U ++ H₀)) H) (mh : (ah, AO.list (hs.map .int)) ∈ H₀) (ma : (aa, AO.list (ap.map .int)) ∈ H₀)
    (al : ap.length = n) (n2 : 2 ≤ n) (n6 : n ≤ 6) (ok : idOk (medS ap) 6) {lows : List Int} (hlows : lowsS n hs ap (bestS ap).2 = lows) (G : Good n hs lows) (hst : 2 * steps = 2 * (topsS n hs lows).sum - hs.sum - lows.sum) (hlt : steps < 40)
    (h : ∀ T' U', TabI T' → TabD U' → Q (.bool true) (T' ++ (U' ++ H₀))) : OPL C A (fun Vs => call (.ref 320) Vs) [.ref ah, .ref aa, .int steps, .int start] L m H Q := by
  have hl : hs.length = n := G.lf
  refine OPL.sub hsub ?_
  refine FnK.call K.f_meet K.G R ["steps", "start", "n", "k", "lows", "one", "two", "raised", "met", "top"] rfl (by decide +kernel) fun env cs hc E => ?_
  obtain ⟨ch, ca, ct, rfl⟩ : ∃ ch ca ct, cs = [ch, ca, ct] := by
    rcases cs with _ | ⟨x, _ | ⟨y, _ | ⟨z, _ | ⟨u, r⟩⟩⟩⟩ <;> first | exact ⟨_, _, _, rfl⟩ | (exact absurd hc (by simp [cellNames]))
  replace E : EnvOk env nm_meet [("heights", ch), ("apart", ca), ("turn", ct)] := E
  show BNDA C A.in1 env [("heights", .ref ah), ("apart", .ref aa), ("steps", .int steps), ("start", .int start)] [("steps", .undef), ("start", .undef), ("n", .undef), ("k", .undef), ("lows", .undef), ("one", .undef), ("two", .undef), ("raised", .undef), ("met", .undef), ("top", .undef)] ((ch, .cell .undef) :: (ca, .cell .undef) :: (ct, .cell .undef) :: (L, .ns m) :: (T ++ (U ++ H₀))) _
  simp only [BNDA]
  refine STN.cell' E (by wtm_at "a") (by wtm_at "a") (by wtm_at "a") (STN.cell' E (by wtm_at "a") (by wtm_at "a") (by wtm_at "a") (STN.loc E (by wtm_at "a") (by wtm_at "a") (STN.loc E (by wtm_at "a") (by wtm_at "a") ?_)))
  conv => arg 3; whnf
  have hh : (A.deeper env).handled = none := R.handled
  have mh1 : (ah, AO.list (hs.map .int)) ∈ T ++ (U ++ H₀) := mem2 mh
  wtm_at "n"
  repeat wtm_at "n"
  refine CB.lenList (by wtm_at "m") (by rw [List.length_map]; lia) ?_
  rw [List.length_map, hl]
  wtm_at "n"
  wtm_at "n"
  refine EV.weak ?_
  wtm_at "n"
  refine EV.callK K.f_best ?_
  repeat wtm_at "n"
  refine ⟨rfl, ?_⟩
  repeat wtm_at "n"
  refine K_best K (k := k) (R.deeper env) (T := T) (U := U) (H₀ := (ch, .cell (.ref ah)) :: (ca, .cell (.ref aa)) :: (ct, .cell .undef) :: (L, .ns m) :: H₀) hTi hUd ?_ (.tail _ (.tail _ (.tail _ (.tail _ ma)))) (by lia) (by lia) ok fun t T' U' hT' hU' => ?_
  · exact Sub.trans (Sub.trans Sub.in2 (Sub.cons Sub.in2)) (Sub.cons (Sub.cons (Sub.trans Sub.in2 (Sub.cons Sub.in2))))
  repeat wtm_at "n"
  refine SUB.tup (.head _) (j := 1) (x := .int (bestS ap).2) (by rfl) (by rfl) ?_
  refine ⟨(ch, .cell (.ref ah)) :: (ca, .cell (.ref aa)) :: (ct, .cell .undef) :: (L, .ns m) :: (T' ++ (U' ++ H₀)), ?_, ?_⟩
  · exact Sub.drop (Sub.outs (X := [_, _, _, _]))
  replace h := h T' U' hT' hU'
  replace mh : (ah, AO.list (hs.map .int)) ∈ T' ++ (U' ++ H₀) := mem2 mh
  replace ma : (aa, AO.list (ap.map .int)) ∈ T' ++ (U' ++ H₀) := mem2 ma
  clear hT' hU' hsub hTi hUd mh1
  generalize T' ++ (U' ++ H₀) = H₀ at h mh ma ⊢
  wtm_at "n"
  have hg : ∀ {l : List Int} {k : Nat}, k < l.length → (l.map AV.int)[k]? = some (.int (l.getD k 0)) := fun {l k} h => by
    rw [List.getElem?_map, List.getD_eq_getElem?_getD, List.getElem?_eq_getElem h]; rfl
  refine EB.assignListComp (snames := nm_meet_c) (names' := [(".0", .local), ("k", .local), ("apart", .cell), ("heights", .cell), ("turn", .cell)]) (cls := [("apart", ca), ("heights", ch), ("turn", ct)]) (locs := [".0", "k"]) E (compSt1 rfl rfl rfl (by decide +kernel) (by simp only [List.map_cons, List.map_nil]; decide +kernel) ?_) (by wtm_at "a") (by decide +kernel) (by decide +kernel) ?_
  · intro q hq
    simp only [List.mem_cons, List.mem_nil_iff, or_false] at hq
    rcases hq with rfl | rfl | rfl
    · exact ⟨by wtm_at "a", by wtm_at "a", by show (Str.ofString "apart", NameKind.free) ∈ _; wtm_at "m"⟩
    · exact ⟨by wtm_at "a", by wtm_at "a", by show (Str.ofString "heights", NameKind.free) ∈ _; wtm_at "m"⟩
    · exact ⟨by wtm_at "a", by wtm_at "a", by show (Str.ofString "turn", NameKind.free) ∈ _; wtm_at "m"⟩
  repeat wtm_at "n"
  refine CB.range1 fun r => ?_
  refine LCQ.pure (xs := rangeL 0 1 n) (lows.map .int) (ITERS.range hh (.tail _ (.head _)) (small01 (n := n) (by lia)) (size01 n)) (fun _ => trivial) (by rw [rangeL_len, List.length_map, G.lg]) (by rw [rangeL_len]; lia) rfl (fun cenv E' k y z hy hz => ?_) fun lk => ?_
  · obtain ⟨hk, rfl⟩ := rangeL_get hy
    rw [show (0 : Int) + ↑k * 1 = ↑k by lia]
    simp only [List.map_cons, List.map_nil]
    rw [hg (by rw [G.lg]; exact hk)] at hz
    cases hz
    rw [← hlows, lowsS, range_get hk]
    repeat wtm_at "n"
    refine SUB.list (by wtm_at "m") (j := k) (x := .int (hs.getD k 0)) ?_ (hg (by lia)) ?_
    · rw [List.length_map, hl]; exact seqIdx_nat hk
    repeat wtm_at "n"
    refine SUB.list (by wtm_at "m") (j := k) (x := .int (ap.getD k 0)) ?_ (hg (by lia)) ?_
    · rw [List.length_map, al]; exact seqIdx_nat hk
    repeat wtm_at "n"
    refine OP.mul (by decide) ?_
    repeat wtm_at "n"
    exact ⟨rfl, rfl, Sub.refl⟩
  wtm_at "n"
  refine EB.sub (H' := (lk, .list (lows.map .int)) :: (ch, .cell (.ref ah)) :: (ca, .cell (.ref aa)) :: (ct, .cell (.int (bestS ap).2)) :: (L, .ns m) :: H₀) (by wtm_at "sub") ?_
  generalize hR : (lk, AO.list (lows.map .int)) :: (ch, .cell (.ref ah)) :: (ca, .cell (.ref aa)) :: (ct, .cell (.int (bestS ap).2)) :: (L, .ns m) :: H₀ = R0
  wtm_at "n"
  refine EV.callK K.f_book ?_
  have mh2 : (ah, AO.list (hs.map .int)) ∈ R0 := by rw [← hR]; exact .tail _ (.tail _ (.tail _ (.tail _ (.tail _ mh))))
  have ml2 : (lk, AO.list (lows.map .int)) ∈ R0 := by rw [← hR]; exact .head _
  have mch : (ch, AO.cell (.ref ah)) ∈ R0 := by rw [← hR]; exact .tail _ (.head _)
  have rng : ∀ {l : List Int}, l.length = n → (∀ p, p < n → 8 ≤ l.getD p 0 ∧ l.getD p 0 < 30) → ∀ h ∈ l, 8 ≤ h ∧ h < 32 := fun {l} e hr h hh => by
    obtain ⟨i, hi, rfl⟩ := List.getElem_of_mem hh
    have := hr i (by lia)
    rw [List.getD_eq_getElem?_getD, List.getElem?_eq_getElem hi] at this
    simp only [Option.getD_some] at this
    lia
  repeat wtm_at "n"
  refine ⟨rfl, ?_⟩
  repeat wtm_at "n"
  refine OP.fmod (by lia) ?_
  refine vI (fmod_nat (n := n) (by lia) _) ?_
  repeat wtm_at "n"
  refine K_book K Kh (d := k + 3) (R.deeper env).less mh2 (by lia) (by lia) (rng hl G.rf) fun b1 dx1 tk1 l1 ts1 ht1 => ?_
  wtm_at "n"
  have ml3 : (lk, AO.list (lows.map .int)) ∈ hT C b1 dx1 tk1 l1 ts1 (bookS hs (start % n).toNat) ++ R0 := List.mem_append_right _ ml2
  wtm_at "n"
  refine EV.callK K.f_book ?_
  repeat wtm_at "n"
  refine ⟨rfl, ?_⟩
  repeat wtm_at "n"
  refine OP.fdiv (by lia) (by lia) ?_
  repeat wtm_at "n"
  refine OP.fmod (by lia) ?_
  refine vI (fmod_nat (n := n) (by lia) _) ?_
  repeat wtm_at "n"
  refine K_book K Kh (d := k + 3) (R.deeper env).less ml3 (by rw [G.lg]; lia) (by rw [G.lg]; omega) (rng G.lg G.rg) fun b2 dx2 tk2 l2 ts2 ht2 => ?_
  wtm_at "n"
  rw [bookS_is hl (by lia) n6] at ht1 ⊢
  rw [bookS_is G.lg (by lia) n6] at ht2 ⊢
  have no1 := nsB_ok (n := n) (by lia) n6 (start % n).toNat
  have no2 := nsB_ok (n := n) (by lia) n6 ((start.fdiv n) % n).toNat
  rw [esS_len no1] at ht1
  rw [esS_len no2] at ht2
  generalize nsB n (start % n).toNat = nsa at *
  generalize nsB n ((start.fdiv n) % n).toNat = nsb at *
  refine EB.sub Sub.rot ?_
  wtm_at "n"
  repeat wtm_at "n"
  have mR : ∀ {q : Addr × AO} {X Y : HS}, q ∈ R0 → q ∈ X ++ (Y ++ R0) := fun h => List.mem_append_right _ (List.mem_append_right _ h)
  have t0 := tops_ge (n := n) (g := lows) hl
  have t1 := tops_ge (n := n) (g := hs) G.lg
  rw [tops_comm] at t1
  have st0 : 0 ≤ steps := by lia
  obtain ⟨J1, hJ1⟩ : ∃ J : Nat → Loc → HS → Prop, ∀ f m' H', J f m' H' ↔ (∀ P : Prop, (∀ (f1 g1 : List Int) (ns1 ns2 : List Nat) (ts1 ts2 : List Addr) (r : Nat), Good n f1 g1 → NsOk n ns1 → NsOk n ns2 → ts1.length = n → ts2.length = n → topsS n f1 g1 = topsS n hs lows → f1.sum + g1.sum = hs.sum + lows.sum + 2 * r → (f : Int) + r = steps → m' = ([("steps", .int steps), ("start", .int start), ("n", .int n), ("k", .undef), ("lows", .ref lk), ("one", .ref b1), ("two", .ref b2), ("raised", .int r), ("met", .undef), ("top", .undef)] : Loc) → H' = hT C b1 dx1 tk1 l1 ts1 (esS ns1 f1) ++ (hT C b2 dx2 tk2 l2 ts2 (esS ns2 g1) ++ R0) → P) → P) := ⟨_, fun _ _ _ => Iff.rfl⟩
  refine EB.while J1 steps.toNat ((hJ1 _ _ _).mpr fun _ kk => kk hs lows nsa nsb ts1 ts2 0 G no1 no2 ht1 ht2 rfl (by simp) (by lia) rfl rfl) ?_
  intro fu m' H' hj
  refine (hJ1 _ _ _).mp hj _ fun f1 g1 ns1 ns2 ts1 ts2 r G1 k1 k2 hl1 hl2 htop hsum hfu ee1 ee2 => ?_
  subst ee1; subst ee2
  have u0 := tops_ge (n := n) (g := g1) G1.lf
  have u1 := tops_ge (n := n) (g := f1) G1.lg
  rw [tops_comm, htop] at u1
  rw [htop] at u0
  repeat wtm_at "n"
  refine ifT (decide_eq_true (show (r : Int) < 40 by lia)) ?_
  repeat wtm_at "n"
  refine ET.plain (EV.callK K.f_raise ?_)
  repeat wtm_at "n"
  refine ⟨rfl, ?_⟩
  repeat wtm_at "n"
  refine K_raise K Kh (d := k + 3) (R.deeper env).less Sub.refl (by lia) n6 k1 k2 hl1 hl2 G1.lf G1.rf (fun p hp => ⟨(G1.rg p hp).1, by have := (G1.rg p hp).2; lia⟩) ?_
  cases hf1 : findR n f1 g1 ns1 with
  | some c =>
    obtain ⟨hc, G2, ht2, hs2⟩ := raise_step n2 G1 k1 hf1
    intro ts' hts'
    repeat wtm_at "n"
    refine ifT rfl (ifT rfl ?_)
    repeat wtm_at "n"
    have u2 := tops_ge (n := n) (g := g1) G2.lf
    rw [ht2, htop] at u2
    refine EB.nil ⟨fu - 1, by lia, ((hJ1 _ _ _).mpr fun _ kk => kk _ _ _ _ ts' ts2 (r + 1) G2 (nsR_ok k1 hc) k2 hts' hl2 (ht2.trans htop) (by lia) (by lia) rfl rfl)⟩
  | none =>
  repeat wtm_at "n"
  refine ifF rfl ?_
  repeat wtm_at "n"
  refine ET.plain (EV.callK K.f_raise ?_)
  repeat wtm_at "n"
  refine ⟨rfl, ?_⟩
  repeat wtm_at "n"
  refine K_raise K Kh (d := k + 3) (R.deeper env).less Sub.rot (by lia) n6 k2 k1 hl2 hl1 G1.lg G1.rg (fun p hp => ⟨(G1.rf p hp).1, by have := (G1.rf p hp).2; lia⟩) ?_
  cases hf2 : findR n g1 f1 ns2 with
  | some c =>
    obtain ⟨hc, G2, ht2, hs2⟩ := raise_step n2 G1.symm k2 hf2
    intro ts' hts'
    repeat wtm_at "n"
    refine ifT rfl ?_
    refine EB.sub Sub.rot ?_
    repeat wtm_at "n"
    rw [tops_comm] at ht2
    rw [tops_comm n g1 f1] at ht2
    have u2 := tops_ge (n := n) (g := f1) G2.lf
    rw [tops_comm, ht2, htop] at u2
    refine EB.nil ⟨fu - 1, by lia, ((hJ1 _ _ _).mpr fun _ kk => kk _ _ _ _ ts1 ts' (r + 1) (G2.symm) k1 (nsR_ok k2 hc) hl1 hts' (ht2.trans htop) (by lia) (by lia) rfl rfl)⟩
  | none =>
  repeat wtm_at "n"
  refine ifF rfl ?_
  obtain ⟨hfg, htf⟩ := stop_eq n2 G1 k1 k2 hf1 hf2
  rw [htop] at htf
  obtain rfl : f1 = g1 := hfg
  have hr : (r : Int) = steps := by rw [htf] at hst; lia
  refine EB.sub Sub.rot ?_
  wtm_at "n"
  refine EV.dict0 fun d => ?_
  wtm_at "n"
  wtm_at "n"
  repeat wtm_at "n"
  refine CB.range1 fun r2 => ?_
  have hfr : ∀ p, p < n → (if lows.getD p 0 > hs.getD p 0 then lows.getD p 0 else hs.getD p 0) = f1.getD p 0 := fun p hp => by
    rw [← htf]; unfold topsS; rw [range_get hp]
  have i1 : ∀ q ∈ hT C b1 dx1 tk1 l1 ts1 (esS ns1 f1), q ∈ hT C b1 dx1 tk1 l1 ts1 (esS ns1 f1) ++ (hT C b2 dx2 tk2 l2 ts2 (esS ns2 f1) ++ R0) := fun q hq => List.mem_append_left _ hq
  have i2 : ∀ q ∈ hT C b2 dx2 tk2 l2 ts2 (esS ns2 f1), q ∈ hT C b1 dx1 tk1 l1 ts1 (esS ns1 f1) ++ (hT C b2 dx2 tk2 l2 ts2 (esS ns2 f1) ++ R0) := fun q hq => List.mem_append_right _ (List.mem_append_left _ hq)
  have i3 : Sub ((L, .ns m) :: H₀) (hT C b1 dx1 tk1 l1 ts1 (esS ns1 f1) ++ (hT C b2 dx2 tk2 l2 ts2 (esS ns2 f1) ++ R0)) := Sub.trans (Sub.trans (by rw [← hR]; exact Sub.drop (Sub.drop (Sub.drop (Sub.drop Sub.refl)))) Sub.right) Sub.right
  have mh3 := mR (X := hT C b1 dx1 tk1 l1 ts1 (esS ns1 f1)) (Y := hT C b2 dx2 tk2 l2 ts2 (esS ns2 f1)) mh2
  have ml4 := mR (X := hT C b1 dx1 tk1 l1 ts1 (esS ns1 f1)) (Y := hT C b2 dx2 tk2 l2 ts2 (esS ns2 f1)) ml2
  have mc3 := mR (X := hT C b1 dx1 tk1 l1 ts1 (esS ns1 f1)) (Y := hT C b2 dx2 tk2 l2 ts2 (esS ns2 f1)) mch
  clear mh2 ml2 ml3 mch mR
  generalize hT C b1 dx1 tk1 l1 ts1 (esS ns1 f1) ++ (hT C b2 dx2 tk2 l2 ts2 (esS ns2 f1) ++ R0) = B at i1 i2 i3 mh3 ml4 mc3 ⊢
  obtain ⟨J2, hJ2⟩ : ∃ J : Nat → Loc → HS → Prop, ∀ i m' H', J i m' H' ↔ (∀ P : Prop, (∀ kv tv, m' = ([("steps", .int steps), ("start", .int start), ("n", .int n), ("k", kv), ("lows", .ref lk), ("one", .ref b1), ("two", .ref b2), ("raised", .int r), ("met", .ref d), ("top", tv)] : Loc) → H' = (r2, .rng 0 n 1) :: (d, .dict (metE f1 i)) :: B → P) → P) := ⟨_, fun _ _ _ => Iff.rfl⟩
  refine forR n J2 rfl (by lia) hh ((hJ2 _ _ _).mpr fun _ kk => kk _ _ rfl rfl) (fun i m' H' hi hj => ?_) fun m' H' hj => ?_
  · refine (hJ2 _ _ _).mp hj _ fun kv tv ee1 ee2 => ?_
    subst ee1; subst ee2
    have hfi := hfr i hi
    have hri := G1.rf i hi
    wtm_at "n"
    wtm_at "n"
    repeat wtm_at "n"
    refine SUB.list (.tail _ (.tail _ mh3)) (j := i) (x := .int (hs.getD i 0)) ?_ (hg (by lia)) ?_
    · rw [List.length_map, hl]; exact seqIdx_nat hi
    repeat wtm_at "n"
    refine SUB.list (.tail _ (.tail _ ml4)) (j := i) (x := .int (lows.getD i 0)) ?_ (hg (by rw [G.lg]; exact hi)) ?_
    · rw [List.length_map, G.lg]; exact seqIdx_nat hi
    repeat wtm_at "n"
    refine CB.max2 hh ?_
    rw [hfi]
    wtm_at "n"
    wtm_at "n"
    have hset := metE_set (f := f1) (i := i)
    generalize f1.getD i 0 = top at hri hset ⊢
    obtain ⟨kn, rfl⟩ : ∃ kn : Nat, top = (kn : Int) := ⟨top.toNat, by lia⟩
    repeat wtm_at "n"
    rw [show Str.ofString "." = ofL [46] from by decide +kernel]
    refine OP.muls (by lia) (by lia) ?_
    repeat wtm_at "n"
    refine OP.fmod (by decide) ?_
    refine SUB.hue ?_
    repeat wtm_at "n"
    refine OP.adds (by rw [ofL_len, ofL_len, List.length_replicate, sizeLine_eq]; simp; lia) ?_
    rw [ofL_app]
    repeat wtm_at "n"
    refine SUB.str (j := i) (c := 97 + i) (seqIdx_nat (n := 6) (by lia)) (let_of (by lia)).2.2 ?_
    refine ST.dict' (es' := metE f1 (i + 1)) (by wtm_at "a") (by rw [metE_len]; lia) ?_ ?_
    · rw [← hset]; rfl
    exact EB.nil ((hJ2 _ _ _).mpr fun _ kk => kk _ _ rfl rfl)
  refine (hJ2 _ _ _).mp hj _ fun kv tv ee1 ee2 => ?_
  subst ee1; subst ee2
  wtm_at "n"
  repeat wtm_at "n"
  have le1 : ts1.length = (esS ns1 f1).length := by rw [esS_len k1, hl1]
  have le2 : ts2.length = (esS ns2 f1).length := by rw [esS_len k2, hl2]
  have ok0 := nsB_ok (n := n) (by lia) n6 0
  refine CB.lenInst Kh.X Kh.f (hT_hi i1).tail.tail (K_hlen K Kh (d := k + 3) (R.deeper env).in1.less (hT_hi i1).tail.tail (.tail _ (.tail _ (hT_list i1))) (by rw [List.length_map]; lia) ⟨_, rfl, by rw [List.length_map]; lia, ?_⟩)
  rw [List.length_map, hl1]
  repeat wtm_at "n"
  refine ifF (bne_self_eq_false _) ?_
  repeat wtm_at "n"
  refine CB.lenInst Kh.X Kh.f (hT_hi i2).tail.tail (K_hlen K Kh (d := k + 3) (R.deeper env).in1.less (hT_hi i2).tail.tail (.tail _ (.tail _ (hT_list i2))) (by rw [List.length_map]; lia) ⟨_, rfl, by rw [List.length_map]; lia, ?_⟩)
  rw [List.length_map, hl2]
  repeat wtm_at "n"
  refine ifF (bne_self_eq_false _) ?_
  repeat wtm_at "n"
  rw [hr, show (steps != steps) = false from bne_self_eq_false _, if_neg (by decide)]
  refine EB.nil (EB.ret (EV.chain ?_))
  refine EV.dictComp (snames := nmRow) (names' := nmRow) (cls := []) (locs := [".0", "name", "row"]) E (compSt0 rfl rfl rfl (by decide +kernel)) ?_
  refine EV.methH0 (fa := 208) Kh.X Kh.f (by simp [mths]) ?_
  repeat wtm_at "n"
  refine ⟨_, _, rfl, (hT_hi i1).tail.tail, ?_⟩
  refine K_items K Kh (d := k + 3) (R.deeper env).less (hT_hi i1).tail.tail (.tail _ (.tail _ (hT_list i1))) (by rw [List.length_map]; lia) fun w1 => ?_
  refine DCQ.rows (fun _ => rfl) hh (.head _) (fun i t e x y => .tail _ (.tail _ (.tail _ (hT_tup i1 x y)))) le1 (by rw [← le1]; lia) (esS_mem k1) (esS_nd k1) fun d1 => ?_
  repeat wtm_at "n"
  have hu : (A.deeper env).units < cLine := (R.deeper env).units'
  have m1 := metE_is (f := f1) (n := n) (by lia) n6
  refine OP.eqDict K.G (by wtm_at "m") (by wtm_at "m") hu (by rw [metE_len]; unfold rowsD; rw [List.length_map, esS_len k1]) (by rw [m1]; exact rows_all k1 ok0) ?_
  wtm_at "n"
  refine ifT rfl ?_
  refine EV.dictComp (snames := nmRow) (names' := nmRow) (cls := []) (locs := [".0", "name", "row"]) E (compSt0 rfl rfl rfl (by decide +kernel)) ?_
  refine EV.methH0 (fa := 208) Kh.X Kh.f (by simp [mths]) ?_
  repeat wtm_at "n"
  refine ⟨_, _, rfl, (hT_hi i2).tail.tail.tail.tail, ?_⟩
  refine K_items K Kh (d := k + 3) (R.deeper env).less (hT_hi i2).tail.tail.tail.tail (.tail _ (.tail _ (.tail _ (.tail _ (hT_list i2))))) (by rw [List.length_map]; lia) fun w2 => ?_
  refine DCQ.rows (fun _ => rfl) hh (.head _) (fun i t e x y => .tail _ (.tail _ (.tail _ (.tail _ (.tail _ (hT_tup i2 x y)))))) le2 (by rw [← le2]; lia) (esS_mem k2) (esS_nd k2) fun d2 => ?_
  refine OP.eqDict K.G (by wtm_at "m") (by wtm_at "m") hu (by rw [metE_len]; unfold rowsD; rw [List.length_map, esS_len k2]) (by rw [m1]; exact rows_all ok0 k2) ?_
  exact ⟨_, Sub.drop (Sub.drop (Sub.drop (Sub.drop (Sub.drop (Sub.drop i3))))), h⟩
end

/- law -/
structure WordOk (n : Nat) (first : Int) (steps hs : List Int) (v : List Nat) (d : Int) : Prop where
  len : v.length = n
  hue : ∀ c ∈ v, isHue c
  ok : idOk (medS (apartS steps first v)) 6
  best : (bestS (apartS steps first v)).1 = d
  good : Good n hs (lowsS n hs (apartS steps first v) (bestS (apartS steps first v)).2)
  cost : 2 * d = 2 * (topsS n hs (lowsS n hs (apartS steps first v) (bestS (apartS steps first v)).2)).sum - hs.sum - (lowsS n hs (apartS steps first v) (bestS (apartS steps first v)).2).sum
  lt : d < 40
noncomputable def looseB (n : Nat) (w w2 : Int) : Bool := w == w2 && (decide ((n : Int) < w) && decide (w < 2 * n))
structure LawOk (n : Nat) (first : Int) (steps hs hs2 : List Int) : Prop where
  n4 : 4 ≤ n
  n6 : n ≤ 6
  len : steps.length = n
  lh : hs.length = n
  lh2 : hs2.length = n
  w1 : windsOk hs
  w2 : windsOk hs2
  far : ∃ fuel res, bfsF n fuel [(wordS hs, 0)] 0 = some res ∧ res.length ≤ 900 ∧ (∀ p ∈ res, WordOk n first steps hs p.1 p.2) ∧ (lkE res (wordS hs2)).isSome = (looseB n (windsS hs) (windsS hs2) || wordS hs2 == wordS hs)
noncomputable def nC (cs : List Int) : Nat := (4 + (cs.getD 0 0 + 1).fmod 3).toNat
noncomputable def stA (cs : List Int) : List Int := stepsS (nC cs) ((cs.getD 1 0).fdiv 3) (cs.getD 2 0)
noncomputable def hsA (cs : List Int) : List Int := heightsS ((cs.getD 1 0).fmod 3) (stA cs)
noncomputable def stB (cs : List Int) : List Int := stepsS (nC cs) ((cs.getD 1 0).fdiv 3 + (cs.getD 3 0).fdiv 3) (cs.getD 4 0)
noncomputable def hsB (cs : List Int) : List Int := heightsS ((cs.getD 3 0).fmod 3) (stB cs)
theorem lkE_mem {es : Far} {v : List Nat} {d : Int} (h : lkE es v = some d) : (v, d) ∈ es := by
  unfold lkE at h
  obtain ⟨p, hp, rfl⟩ := Option.map_eq_some_iff.mp h
  have h1 := List.find?_some hp
  have h2 := List.mem_of_find?_eq_some hp
  simp at h1; subst h1; exact h2
theorem lkE_some {es : Far} {p : List Nat × Int} (h : p ∈ es) : ∃ d, lkE es p.1 = some d := by
  unfold lkE
  cases q : es.find? fun x => x.1 = p.1 with
  | some x => exact ⟨_, rfl⟩
  | none => have := List.find?_eq_none.mp q p h; simp at this
theorem pickL_mem {α : Type} {xs : List α} {lo hi st : Option Int} {x : α} (h : x ∈ pickL xs lo hi st) : x ∈ xs := by
  unfold pickL at h
  obtain ⟨i, _, e⟩ := List.mem_filterMap.mp h
  exact List.mem_of_getElem? e
theorem nC_is (cs : List Int) : 4 + (cs.getD 0 0 + 1).fmod 3 = (nC cs : Int) ∧ 4 ≤ nC cs ∧ nC cs ≤ 6 := by
  unfold nC
  have h1 := Int.fmod_nonneg_of_pos (cs.getD 0 0 + 1) (show (0 : Int) < 3 by decide)
  have h2 := Int.fmod_lt_of_pos (cs.getD 0 0 + 1) (show (0 : Int) < 3 by decide)
  omega
section
variable {C : Cx} {A : Around} {L : Addr} {m : Loc} {H H₀ : HS} {F : Frag}
theorem EV.mono {e : Expr} {env : Env} {Q Q' : AV → HS → Prop} (h : EV C A e env m H Q) (k : ∀ v H', Q v H' → Q' v H') : EV C A e env m H Q' := TV.mono h k
theorem B_law (K : KX C) (Kh : KH C F) {k : Nat} (R : Rm A (k + 8)) {T U : HS} (hTi : TabI T) (hUd : TabD U) {a : Addr} {ns : List Int} (hm : BaseL C a (ns.map .int)) (hl : ns.length ≤ 63) (hsub : Sub (T ++ (U ++ H₀)) H)
    {cs : List Int} (hcs : cellsS ns = cs) (ok : LawOk (nC cs) ((cs.getD 1 0).fmod 3) (stA cs) (hsA cs) (hsB cs)) {env : Env} (E : EnvOk env nm_law []) {Q : FL → Loc → HS → Prop} (h : ∀ m' T' U', TabI T' → TabD U' → Q (.ret (.bool true)) m' (T' ++ (U' ++ H₀))) :
    EB C A (bodyOf 35) env ([("script", .ref a), ("cells", .undef), ("n", .undef), ("steps", .undef), ("heights", .undef), ("aims", .undef), ("aim", .undef), ("far", .undef), ("winds", .undef), ("loose", .undef), ("other", .undef)] : Loc) H Q := by
  refine EB.sub hsub ?_
  conv => arg 3; whnf
  have hh : A.handled = none := R.handled
  obtain ⟨hn, n4, n6⟩ := nC_is cs
  obtain ⟨-, -, len, lh, lh2, w1, w2, fuel, res, hres, hrl, hwords, hreach⟩ := ok
  have hc6 : cs.length = 6 := by rw [← hcs]; exact cellAt_len ..
  have hg : ∀ {k : Nat}, k < 6 → (cs.map AV.int)[k]? = some (.int (cs.getD k 0)) := fun {k} h => by
    rw [List.getElem?_map, List.getD_eq_getElem?_getD, List.getElem?_eq_getElem (by lia)]; rfl
  have hq : ∀ {k : Nat}, k < 6 → seqIndex? (k : Int) (cs.map AV.int).length = some k := fun {k} h => by rw [List.length_map, hc6]; exact seqIdx_nat h
  unfold hsA hsB at *
  unfold stA at *
  unfold stB at *
  generalize nC cs = n at *
  have hg0 := hg (k := 0) (by decide)
  have hg1 := hg (k := 1) (by decide)
  have hg2 := hg (k := 2) (by decide)
  have hg3 := hg (k := 3) (by decide)
  have hg4 := hg (k := 4) (by decide)
  have hg5 := hg (k := 5) (by decide)
  generalize cs.getD 0 0 = c0 at *
  generalize cs.getD 1 0 = c1 at *
  generalize cs.getD 2 0 = c2 at *
  generalize cs.getD 3 0 = c3 at *
  generalize cs.getD 4 0 = c4 at *
  generalize cs.getD 5 0 = c5 at *
  wtm_at "n"
  refine EV.callK K.f_cells ?_
  repeat wtm_at "n"
  refine ⟨rfl, ?_⟩
  repeat wtm_at "n"
  refine K_cells K (n := k + 7) R.less hm hl fun cb => ?_
  rw [hcs]
  repeat wtm_at "n"
  refine SUB.list (by wtm_at "m") (j := 0) (x := .int c0) (hq (k := 0) (by decide)) hg0 ?_
  repeat wtm_at "n"
  refine OP.fmod (by decide) ?_
  repeat wtm_at "n"
  rw [hn]
  refine EV.callK K.f_steps ?_
  repeat wtm_at "n"
  refine ⟨rfl, ?_⟩
  repeat wtm_at "n"
  refine SUB.list (by wtm_at "m") (j := 1) (x := .int c1) (hq (k := 1) (by decide)) hg1 ?_
  repeat wtm_at "n"
  refine OP.fdiv (by decide) (by decide) ?_
  repeat wtm_at "n"
  refine SUB.list (by wtm_at "m") (j := 2) (x := .int c2) (hq (k := 2) (by decide)) hg2 ?_
  repeat wtm_at "n"
  refine K_steps K (d := k + 7) R.less n4 n6 fun sb => ?_
  repeat wtm_at "n"
  generalize stepsS n (c1.fdiv 3) c2 = steps at *
  refine EV.callK K.f_heights ?_
  repeat wtm_at "n"
  refine ⟨rfl, ?_⟩
  repeat wtm_at "n"
  refine SUB.list (by wtm_at "m") (j := 1) (x := .int c1) (hq (k := 1) (by decide)) hg1 ?_
  repeat wtm_at "n"
  refine OP.fmod (by decide) ?_
  repeat wtm_at "n"
  refine K_heights K (d := k + 7) R.less (List.Mem.head _) (by lia) (by lia) fun hb => ?_
  repeat wtm_at "n"
  generalize hfst : c1.fmod 3 = first at *
  generalize heightsS first steps = hs at *
  refine EV.callK K.f_heights ?_
  repeat wtm_at "n"
  refine ⟨rfl, ?_⟩
  repeat wtm_at "n"
  refine SUB.list (by wtm_at "m") (j := 3) (x := .int c3) (hq (k := 3) (by decide)) hg3 ?_
  repeat wtm_at "n"
  refine OP.fmod (by decide) ?_
  repeat wtm_at "n"
  refine EV.callK K.f_steps ?_
  repeat wtm_at "n"
  refine ⟨rfl, ?_⟩
  repeat wtm_at "n"
  refine SUB.list (by wtm_at "m") (j := 1) (x := .int c1) (hq (k := 1) (by decide)) hg1 ?_
  repeat wtm_at "n"
  refine OP.fdiv (by decide) (by decide) ?_
  repeat wtm_at "n"
  refine SUB.list (by wtm_at "m") (j := 3) (x := .int c3) (hq (k := 3) (by decide)) hg3 ?_
  repeat wtm_at "n"
  refine OP.fdiv (by decide) (by decide) ?_
  repeat wtm_at "n"
  refine SUB.list (by wtm_at "m") (j := 4) (x := .int c4) (hq (k := 4) (by decide)) hg4 ?_
  repeat wtm_at "n"
  refine K_steps K (d := k + 7) R.less n4 n6 fun sb2 => ?_
  have len2 : (stepsS n (c1.fdiv 3 + c3.fdiv 3) c4).length = n := by
    have := lh2
    unfold heightsS at this; rw [hAt_len] at this; lia
  generalize stepsS n (c1.fdiv 3 + c3.fdiv 3) c4 = steps2 at *
  repeat wtm_at "n"
  refine K_heights K (d := k + 7) R.less (List.Mem.head _) (by lia) (by lia) fun ab => ?_
  generalize heightsS (c3.fmod 3) steps2 = hs2 at *
  repeat wtm_at "n"
  refine EV.callK K.f_word ?_
  repeat wtm_at "n"
  refine ⟨rfl, ?_⟩
  repeat wtm_at "n"
  refine K_word K (d := k + 7) R.less (by wtm_at "m") (by lia) ?_
  repeat wtm_at "n"
  refine EV.callK K.f_far ?_
  repeat wtm_at "n"
  refine ⟨rfl, ?_⟩
  wtm_at "n"
  refine EV.callK K.f_word ?_
  repeat wtm_at "n"
  refine ⟨rfl, ?_⟩
  repeat wtm_at "n"
  refine K_word K (d := k + 7) R.less (by wtm_at "m") (by lia) ?_
  repeat wtm_at "n"
  have lw : (wordS hs).length = n := by unfold wordS; rw [List.length_map, lh]
  refine K_far K (d := k + 7) R.less (cs := wordS hs) (by lia) (by lia) (by rw [lw]; exact hres) fun fd => ?_
  wtm_at "n"
  refine EB.sub (Sub.ins (X := [(fd, AO.dict (encE res)), (ab, AO.list (hs2.map .int)), (sb2, AO.list (steps2.map .int)), (hb, AO.list (hs.map .int)), (sb, AO.list (steps.map .int)), (cb, AO.list (cs.map .int))])) ?_
  simp only [List.cons_append, List.nil_append]
  generalize hR : (fd, AO.dict (encE res)) :: (ab, AO.list (hs2.map .int)) :: (sb2, AO.list (steps2.map .int)) :: (hb, AO.list (hs.map .int)) :: (sb, AO.list (steps.map .int)) :: (cb, AO.list (cs.map .int)) :: H₀ = R0
  have mfd : (fd, AO.dict (encE res)) ∈ R0 := by rw [← hR]; wtm_at "m"
  have mab : (ab, AO.list (hs2.map .int)) ∈ R0 := by rw [← hR]; wtm_at "m"
  have mhb : (hb, AO.list (hs.map .int)) ∈ R0 := by rw [← hR]; wtm_at "m"
  have msb : (sb, AO.list (steps.map .int)) ∈ R0 := by rw [← hR]; wtm_at "m"
  have mcb : (cb, AO.list (cs.map .int)) ∈ R0 := by rw [← hR]; wtm_at "m"
  have hsR : Sub H₀ R0 := by rw [← hR]; exact Sub.drop (Sub.drop (Sub.drop (Sub.drop (Sub.drop (Sub.drop Sub.refl)))))
  clear hR
  wtm_at "n"
  refine EV.callK K.f_winds ?_
  repeat wtm_at "n"
  refine ⟨rfl, ?_⟩
  repeat wtm_at "n"
  refine K_winds K (k := k + 1) R hTi hUd Sub.refl mhb (by lia) (by lia) w1 fun T1 U1 hT1 hU1 => ?_
  wtm_at "n"
  generalize windsS hs = wi at *
  wtm_at "n"
  refine EV.mono (Q := fun v H' => v = .bool (looseB n wi (windsS hs2)) ∧ ∃ T2 U2, TabI T2 ∧ TabD U2 ∧ H' = T2 ++ (U2 ++ R0)) ?_ ?_
  · refine EV.and2 ?_
    repeat wtm_at "n"
    refine EV.callK K.f_winds ?_
    repeat wtm_at "n"
    refine ⟨rfl, ?_⟩
    repeat wtm_at "n"
    refine K_winds K (k := k + 1) R hT1 hU1 Sub.refl mab (by lia) (by lia) w2 fun T2 U2 hT2 hU2 => ?_
    repeat wtm_at "n"
    unfold looseB
    cases wi == windsS hs2
    · refine ifF rfl ?_
      exact ⟨rfl, T2, U2, hT2, hU2, rfl⟩
    refine ifT rfl ?_
    refine EV.chain ?_
    repeat wtm_at "n"
    cases decide ((n : Int) < wi)
    · refine ifF rfl ?_
      exact ⟨rfl, T2, U2, hT2, hU2, rfl⟩
    refine ifT rfl ?_
    repeat wtm_at "n"
    refine OP.mul (by lia) ?_
    repeat wtm_at "n"
    exact ⟨rfl, T2, U2, hT2, hU2, rfl⟩
  rintro v H' ⟨rfl, T2, U2, hT2, hU2, rfl⟩
  generalize looseB n wi (windsS hs2) = lo at *
  wtm_at "n"
  clear hsub hTi hUd hT1 hU1
  have hP : ∃ P0, T2 ++ (U2 ++ R0) = P0 := ⟨_, rfl⟩
  obtain ⟨P0, hP⟩ := hP
  rw [hP]
  have mfd2 : (fd, AO.dict (encE res)) ∈ P0 := hP ▸ mem2 mfd
  have mhb2 : (hb, AO.list (hs.map .int)) ∈ P0 := hP ▸ mem2 mhb
  have mcb2 : (cb, AO.list (cs.map .int)) ∈ P0 := hP ▸ mem2 mcb
  wtm_at "n"
  wtm_at "n"
  repeat wtm_at "n"
  refine OP.ind K.G mfd2 ?_
  rw [dget_enc, Option.isSome_map, hreach]
  refine EV.mono (Q := fun v H' => v = .bool (lo || wordS hs2 == wordS hs) ∧ H' = P0) ?_ ?_
  · refine EV.or2 ?_
    repeat wtm_at "n"
    cases lo
    · refine ifF rfl ?_
      repeat wtm_at "n"
      refine EV.callK K.f_word ?_
      repeat wtm_at "n"
      refine ⟨rfl, ?_⟩
      repeat wtm_at "n"
      refine K_word K (d := k + 7) R.less mhb2 (by lia) ?_
      repeat wtm_at "n"
      rw [ofL_beq]
      exact ⟨rfl, rfl⟩
    · refine ifT rfl ?_
      exact ⟨rfl, rfl⟩
  rintro v H' ⟨rfl, rfl⟩
  refine OP.neb ?_
  rw [bne_self_eq_false]
  wtm_at "n"
  refine ifF rfl ?_
  have hek : (encE res).map (fun kv => AV.str kv.1) = encK res := by unfold encE encK; rw [List.map_map]; rfl
  refine EB.nil (EB.for (EV.sliceL3 ?_) (by intros; rfl))
  repeat wtm_at "n"
  refine CB.listDict K.G hh mfd2 (by unfold encE; rw [List.length_map]; lia) fun lb => ?_
  rw [hek]
  refine EP.some ?_
  repeat wtm_at "n"
  refine SUB.list (.tail _ mcb2) (j := 5) (x := .int c5) (hq (k := 5) (by decide)) hg5 ?_
  repeat wtm_at "n"
  refine OP.fmod (by decide) ?_
  refine ⟨_, rfl, EP.none ?_⟩
  repeat wtm_at "n"
  refine ⟨_, _, _, rfl, by decide, rfl, .head _, by unfold encK; rw [List.length_map]; lia, fun pb => ?_⟩
  obtain ⟨J1, hJ1⟩ : ∃ J : Nat → Loc → HS → Prop, ∀ i m' H', J i m' H' ↔ (∀ P : Prop, (∀ v T3 U3, TabI T3 → TabD U3 → m' = ([("script", .ref a), ("cells", .ref cb), ("n", .int n), ("steps", .ref sb), ("heights", .ref hb), ("aims", .ref ab), ("aim", .str (ofL (wordS hs2))), ("far", .ref fd), ("winds", .int wi), ("loose", .bool lo), ("other", v)] : Loc) → H' = (pb, .list (pickL (encK res) (some (c5.fmod 4)) none (some 4))) :: (lb, .list (encK res)) :: (T3 ++ (U3 ++ R0)) → P) → P) := ⟨_, fun _ _ _ => Iff.rfl⟩
  refine forL (xs := pickL (encK res) (some (c5.fmod 4)) none (some 4)) J1 (.head _) hh ((hJ1 _ _ _).mpr fun _ kk => kk _ T2 U2 hT2 hU2 rfl (by rw [hP])) ?_ (fun i x m' H' hx hj => ?_) fun m' H' hj => ?_
  · intro i m' H' hj; refine (hJ1 _ _ _).mp hj _ fun v T3 U3 _ _ _ ee1 => ?_; subst ee1; exact .head _
  · refine (hJ1 _ _ _).mp hj _ fun v T3 U3 hT3 hU3 ee1 ee2 => ?_
    subst ee1; subst ee2
    obtain ⟨p, hp, rfl⟩ := List.mem_map.mp (pickL_mem (List.mem_of_getElem? hx))
    obtain ⟨d, hd⟩ := lkE_some hp
    have W := hwords _ (lkE_mem hd)
    simp only at W
    generalize p.1 = v at W hd
    refine ASG.name E (by wtm_at "a") (by wtm_at "a") ?_
    have mfd3 : (fd, AO.dict (encE res)) ∈ T3 ++ (U3 ++ R0) := mem2 mfd
    have msb3 : (sb, AO.list (steps.map .int)) ∈ T3 ++ (U3 ++ R0) := mem2 msb
    have mcb3 : (cb, AO.list (cs.map .int)) ∈ T3 ++ (U3 ++ R0) := mem2 mcb
    wtm_at "n"
    wtm_at "n"
    wtm_at "n"
    refine EV.callK K.f_best ?_
    repeat wtm_at "n"
    refine ⟨rfl, ?_⟩
    wtm_at "n"
    refine EV.callK K.f_apart ?_
    repeat wtm_at "n"
    refine ⟨rfl, ?_⟩
    repeat wtm_at "n"
    refine SUB.list (.tail _ (.tail _ mcb3)) (j := 1) (x := .int c1) (hq (k := 1) (by decide)) hg1 ?_
    repeat wtm_at "n"
    refine OP.fmod (by decide) ?_
    refine vI hfst ?_
    repeat wtm_at "n"
    refine K_apart K (d := k + 7) R.less (.tail _ (.tail _ msb3)) (by rw [W.len]; lia) (by rw [W.len]; lia) (by rw [W.len, len]) W.hue fun b => ?_
    have lap : (apartS steps first v).length = n := by unfold apartS; rw [aAt_len, W.len]; lia
    repeat wtm_at "n"
    refine K_best K (k := k + 1) R (T := T3) (U := U3) (H₀ := (b, .list ((apartS steps first v).map .int)) :: (pb, .list (pickL (encK res) (some (c5.fmod 4)) none (some 4))) :: (lb, .list (encK res)) :: R0) hT3 hU3 (Sub.ins (X := [_, _, _])) (.head _) (by lia) (by lia) W.ok fun t T4 U4 hT4 hU4 => ?_
    repeat wtm_at "n"
    refine SUB.tup (.head _) (j := 0) (x := .int (bestS (apartS steps first v)).1) (by rfl) (by rfl) ?_
    repeat wtm_at "n"
    refine SUB.dict (.tail _ (mem2 (.tail _ (.tail _ (.tail _ mfd))))) (by rw [dget_enc, hd]; rfl) ?_
    repeat wtm_at "n"
    rw [W.best, bne_self_eq_false, if_neg (by decide)]
    refine EB.sub ?_ (EB.nil (EB.nil ((hJ1 _ _ _).mpr fun _ kk => kk _ T4 U4 hT4 hU4 rfl rfl)))
    exact Sub.drop (Sub.trans Sub.drop1 (Sub.outs (X := [_, _, _])))
  · refine (hJ1 _ _ _).mp hj _ fun v T3 U3 hT3 hU3 ee1 ee2 => ?_
    subst ee1; subst ee2
    have hfin : Sub (T3 ++ (U3 ++ H₀)) ((pb, AO.list (pickL (encK res) (some (c5.fmod 4)) none (some 4))) :: (lb, .list (encK res)) :: (T3 ++ (U3 ++ R0))) := Sub.drop (Sub.drop (Sub.under' (Sub.under' hsR)))
    have mfd3 : (fd, AO.dict (encE res)) ∈ T3 ++ (U3 ++ R0) := mem2 mfd
    have msb3 : (sb, AO.list (steps.map .int)) ∈ T3 ++ (U3 ++ R0) := mem2 msb
    have mcb3 : (cb, AO.list (cs.map .int)) ∈ T3 ++ (U3 ++ R0) := mem2 mcb
    refine EB.ret (EV.weak (EV.or2 ?_))
    repeat wtm_at "n"
    refine OP.nind K.G (.tail _ (.tail _ mfd3)) ?_
    rw [dget_enc, Option.isSome_map]
    repeat wtm_at "n"
    cases hd : lkE res (wordS hs2) with
    | none =>
      rw [Option.isSome_none, if_pos (by decide)]
      exact ⟨_, hfin, h _ _ _ hT3 hU3⟩
    | some d =>
    rw [Option.isSome_some, if_neg (by decide)]
    have W := hwords _ (lkE_mem hd)
    simp only at W
    generalize wordS hs2 = v at W hd
    refine EV.callK K.f_meet ?_
    repeat wtm_at "n"
    refine ⟨rfl, ?_⟩
    repeat wtm_at "n"
    refine EV.callK K.f_apart ?_
    repeat wtm_at "n"
    refine ⟨rfl, ?_⟩
    repeat wtm_at "n"
    refine SUB.list (.tail _ (.tail _ mcb3)) (j := 1) (x := .int c1) (hq (k := 1) (by decide)) hg1 ?_
    repeat wtm_at "n"
    refine OP.fmod (by decide) ?_
    refine vI hfst ?_
    repeat wtm_at "n"
    refine K_apart K (d := k + 7) R.less (.tail _ (.tail _ msb3)) (by rw [W.len]; lia) (by rw [W.len]; lia) (by rw [W.len, len]) W.hue fun b => ?_
    have lap : (apartS steps first v).length = n := by unfold apartS; rw [aAt_len, W.len]; lia
    repeat wtm_at "n"
    refine SUB.dict (.tail _ (.tail _ (.tail _ mfd3))) (by rw [dget_enc, hd]; rfl) ?_
    repeat wtm_at "n"
    refine SUB.list (.tail _ (.tail _ (.tail _ mcb3))) (j := 5) (x := .int c5) (hq (k := 5) (by decide)) hg5 ?_
    repeat wtm_at "n"
    refine K_meet K Kh R (T := T3) (U := U3) (H₀ := (b, .list ((apartS steps first v).map .int)) :: (pb, .list (pickL (encK res) (some (c5.fmod 4)) none (some 4))) :: (lb, .list (encK res)) :: R0) (n := n) hT3 hU3 (Sub.ins (X := [_, _, _])) (.tail _ (.tail _ (.tail _ mhb))) (.head _) lap (by lia) (by omega) W.ok rfl W.good W.cost W.lt fun T4 U4 hT4 hU4 => ?_
    exact ⟨_, Sub.under' (Sub.under' (Sub.drop (Sub.drop (Sub.drop hsR)))), h _ _ _ hT4 hU4⟩
end

/- the search, quick in the kernel -/
noncomputable abbrev FarB := List (List Nat × Nat)
noncomputable def forceC {α : Type} (c : Nat) (k : Nat → Option α) : Option α := bif Nat.beq c 114 then k 114 else bif Nat.beq c 103 then k 103 else bif Nat.beq c 98 then k 98 else none
theorem forceC_some {α : Type} {c : Nat} {k : Nat → Option α} {r : α} (h : forceC c k = some r) : isHue c ∧ k c = some r := by
  unfold forceC at h
  cases e1 : Nat.beq c 114 with
  | true => rw [e1] at h; obtain rfl := Nat.eq_of_beq_eq_true e1; exact ⟨.inl rfl, h⟩
  | false =>
  cases e2 : Nat.beq c 103 with
  | true => rw [e1, e2] at h; obtain rfl := Nat.eq_of_beq_eq_true e2; exact ⟨.inr (.inl rfl), h⟩
  | false =>
  cases e3 : Nat.beq c 98 with
  | true => rw [e1, e2, e3] at h; obtain rfl := Nat.eq_of_beq_eq_true e3; exact ⟨.inr (.inr rfl), h⟩
  | false => rw [e1, e2, e3] at h; cases h
noncomputable def forceN {α : Type} : Nat → Nat → (Nat → α) → α
  | 0, d, k => k d
  | f + 1, d, k => bif Nat.beq d f then k f else forceN f d k
theorem forceN_is {α : Type} : ∀ (f d : Nat) (k : Nat → α), forceN f d k = k d
  | 0, _, _ => rfl
  | f + 1, d, k => by
    unfold forceN
    cases e : Nat.beq d f with
    | true => obtain rfl := Nat.eq_of_beq_eq_true e; rfl
    | false => exact forceN_is f d k
noncomputable def codeW : List Nat → Nat
  | [] => 0
  | c :: r => Nat.add (Nat.mul (codeW r) 6) (Nat.mod c 7)
theorem codeW_inj : ∀ {a b : List Nat}, a.length = b.length → (∀ c ∈ a, isHue c) → (∀ c ∈ b, isHue c) → codeW a = codeW b → a = b
  | [], [], _, _, _, _ => rfl
  | x :: a, y :: b, hl, ha, hb, h => by
    have hx := ha x (.head _)
    have hy := hb y (.head _)
    have e : codeW a * 6 + x % 7 = codeW b * 6 + y % 7 := h
    have exy : x % 7 = y % 7 ∧ codeW a = codeW b := by
      have h1 : x % 7 < 6 := by rcases hx with rfl | rfl | rfl <;> decide
      have h2 : y % 7 < 6 := by rcases hy with rfl | rfl | rfl <;> decide
      lia
    have : x = y := by
      have := exy.1
      rcases hx with rfl | rfl | rfl <;> rcases hy with rfl | rfl | rfl <;> first | rfl | (exact absurd this (by decide))
    rw [this, codeW_inj (by simpa using hl) (fun c hc => ha c (.tail _ hc)) (fun c hc => hb c (.tail _ hc)) exy.2]
noncomputable def hasB (M c : Nat) : Bool := Nat.beq (Nat.land 1 (Nat.shiftRight M c)) 1
theorem hasB_is (M c : Nat) : hasB M c = M.testBit c := by
  rw [Nat.testBit_eq_decide_div_mod_eq]
  show Nat.beq (1 &&& (M >>> c)) 1 = _
  rw [Nat.one_and_eq_mod_two, Nat.shiftRight_eq_div_pow, Bool.eq_iff_iff, decide_eq_true_iff]
  exact ⟨Nat.eq_of_beq_eq_true, fun h => by rw [h]; rfl⟩
theorem hasB_set (M c i : Nat) : hasB (Nat.lor M (Nat.pow 2 c)) i = (hasB M i || decide (c = i)) := by
  rw [hasB_is, hasB_is]
  show (M ||| 2 ^ c).testBit i = _
  rw [Nat.testBit_or, Nat.testBit_two_pow]
noncomputable def put (b1 b2 dd : Nat) (w : List Nat) (st : FarB × Nat) : FarB × Nat :=
  bif Nat.beq b1 b2 then
    match st with
    | (es, M) => bif hasB M (codeW w) then (es, M) else (es ++ [(w, dd)], Nat.lor M (Nat.pow 2 (codeW w)))
  else st
noncomputable def third (a b : Nat) : Nat := Nat.sub (Nat.sub 315 a) b
noncomputable def toF (l : FarB) : Far := l.map fun p => (p.1, (p.2 : Int))
structure Rel (n : Nat) (es : Far) (st : FarB × Nat) : Prop where
  is : es = toF st.1
  hue : ∀ p ∈ st.1, p.1.length = n ∧ ∀ c ∈ p.1, isHue c
  msk : ∀ w : List Nat, w.length = n → (∀ c ∈ w, isHue c) → hasB st.2 (codeW w) = (lkE es w).isSome
  one : ∀ p ∈ st.1, lkE es p.1 = some (p.2 : Int)
theorem lkE_app {es : Far} {q : List Nat × Int} {w : List Nat} : lkE (es ++ [q]) w = (lkE es w).or (if q.1 = w then some q.2 else none) := by
  unfold lkE
  rw [List.find?_append]
  cases es.find? fun p => p.1 = w with
  | some x => rfl
  | none =>
    by_cases e : q.1 = w
    · simp [List.find?, e]
    · simp [List.find?, e]
theorem put_spec {n : Nat} {es : Far} {st : FarB × Nat} {w one : List Nat} {dd b1 b2 : Nat} (R : Rel n es st) (ho : lkE es one = some (dd : Int)) (hw : w.length = n) (hh : ∀ c ∈ w, isHue c) :
    ∃ es', (if b1 = b2 then (if (lkE es w).isSome then some es else (lkE es one).map fun d => es ++ [(w, d + 1)]) else some es) = some es' ∧ Rel n es' (put b1 b2 (dd + 1) w st) ∧ lkE es' one = some (dd : Int) := by
  unfold put
  cases e : Nat.beq b1 b2 with
  | false =>
    rw [if_neg (fun h => by rw [h, Nat.beq_refl] at e; cases e)]
    exact ⟨es, rfl, R, ho⟩
  | true =>
  rw [if_pos (Nat.eq_of_beq_eq_true e)]
  obtain ⟨l, M⟩ := st
  have hm := R.msk w hw hh
  simp only at hm
  show ∃ es', _ ∧ Rel n es' (bif hasB M (codeW w) then (l, M) else (l ++ [(w, dd + 1)], Nat.lor M (Nat.pow 2 (codeW w)))) ∧ _
  cases hb : hasB M (codeW w) with
  | true =>
    rw [hb] at hm
    rw [← hm, if_pos rfl]
    exact ⟨es, rfl, R, ho⟩
  | false =>
  rw [hb] at hm
  rw [← hm, if_neg (by decide), ho]
  have hn : lkE es w = none := by
    cases q : lkE es w with
    | none => rfl
    | some x => rw [q] at hm; cases hm
  refine ⟨_, rfl, ⟨?_, ?_, ?_, ?_⟩, ?_⟩
  · show es ++ [(w, (dd : Int) + 1)] = toF (l ++ [(w, dd + 1)])
    rw [R.is]; unfold toF; rw [List.map_append]; rfl
  · intro p hp
    rcases List.mem_append.mp hp with hp | hp
    · exact R.hue p hp
    · rw [List.mem_singleton.mp hp]; exact ⟨hw, hh⟩
  · intro w2 hw2 hh2
    show hasB (Nat.lor M (Nat.pow 2 (codeW w))) (codeW w2) = _
    rw [hasB_set, lkE_app, Option.isSome_or, ← R.msk w2 hw2 hh2]
    congr 1
    by_cases e : w = w2
    · subst e; simp
    · rw [if_neg e, decide_eq_false (fun h => e (codeW_inj (hw.trans hw2.symm) hh hh2 h))]; rfl
  · intro p hp
    rw [lkE_app]
    rcases List.mem_append.mp hp with hp | hp
    · rw [R.one p hp]; rfl
    · rw [List.mem_singleton.mp hp, hn, if_pos rfl]; rfl
  · rw [lkE_app, ho]; rfl
theorem hue_nil : ∀ c ∈ ([] : List Nat), isHue c := fun c h => by cases h
theorem hue_cons {x : Nat} {l : List Nat} (h : isHue x) (hl : ∀ c ∈ l, isHue c) : ∀ c ∈ x :: l, isHue c := fun c hc => by
  rcases List.mem_cons.mp hc with rfl | hc
  · exact h
  · exact hl c hc
theorem turn_spec {n : Nat} {es : Far} {st : FarB × Nat} {one : List Nat} {dd place : Nat} (R : Rel n es st) (ho : lkE es one = some (dd : Int))
    (hw : (newW one place (315 - one.getD ((place + n - 1) % n) 0 - one.getD place 0)).length = n) (hh : ∀ c ∈ newW one place (315 - one.getD ((place + n - 1) % n) 0 - one.getD place 0), isHue c)
    (h3 : isHue (315 - one.getD ((place + n - 1) % n) 0 - one.getD place 0)) :
    ∃ es', turnF n one es place = some es' ∧ Rel n es' (put (one.getD ((place + n - 1) % n) 0) (one.getD ((place + 1) % n) 0) (dd + 1) (newW one place (315 - one.getD ((place + n - 1) % n) 0 - one.getD place 0)) st) ∧ lkE es' one = some (dd : Int) := by
  obtain ⟨es', h1, h2, h4⟩ := put_spec (b1 := one.getD ((place + n - 1) % n) 0) (b2 := one.getD ((place + 1) % n) 0) R ho hw hh
  refine ⟨es', ?_, h2, h4⟩
  rw [← h1]
  unfold turnF
  have : ¬ 315 < one.getD ((place + n - 1) % n) 0 + one.getD place 0 := by rcases h3 with h | h | h <;> omega
  rw [if_neg this]
noncomputable def stp (n : Nat) (one : List Nat) (dd i : Nat) (st : FarB × Nat) : FarB × Nat := put (one.getD ((i + n - 1) % n) 0) (one.getD ((i + 1) % n) 0) (dd + 1) (newW one i (315 - one.getD ((i + n - 1) % n) 0 - one.getD i 0)) st
theorem rnd_next {n : Nat} {es e : Far} {st : FarB × Nat} {one : List Nat} {dd : Nat} (i : Nat) (hl : one.length = n) (hi : i < n) (hh : ∀ c ∈ one, isHue c) (P : roundF n one es i = some e ∧ Rel n e st ∧ lkE e one = some (dd : Int)) (h3 : isHue (315 - one.getD ((i + n - 1) % n) 0 - one.getD i 0)) :
    ∃ e', roundF n one es (i + 1) = some e' ∧ Rel n e' (stp n one dd i st) ∧ lkE e' one = some (dd : Int) := by
  obtain ⟨e', t, R', o⟩ := turn_spec (n := n) (place := i) P.2.1 P.2.2 (by unfold newW; rw [List.length_append, List.length_append, List.length_take, List.length_drop, List.length_singleton]; omega) (fun c hc => by
    unfold newW at hc
    rcases List.mem_append.mp hc with hc | hc
    · rcases List.mem_append.mp hc with hc | hc
      · exact hh c (List.mem_of_mem_take hc)
      · rw [List.mem_singleton.mp hc]; exact h3
    · exact hh c (List.mem_of_mem_drop hc)) h3
  exact ⟨e', by rw [roundF, P.1]; exact t, R', o⟩
noncomputable def RndOk (n : Nat) (rnd : Nat → FarB × Nat → List Nat → Option (FarB × Nat)) : Prop :=
  ∀ (es : Far) (st : FarB × Nat) (one : List Nat) (dd : Nat) (st' : FarB × Nat), rnd (dd + 1) st one = some st' → Rel n es st → lkE es one = some (dd : Int) → (∀ c ∈ one, isHue c) → ∃ es', roundF n one es n = some es' ∧ Rel n es' st'
noncomputable def round4 (dd : Nat) (st : FarB × Nat) : List Nat → Option (FarB × Nat)
  | [a, b, c, d] =>
    forceC (third d a) fun a' => forceC (third a b) fun b' => forceC (third b c) fun c' => forceC (third c d) fun d' => 
    some (put c a dd [a, b, c, d'] (put b d dd [a, b, c', d] (put a c dd [a, b', c, d] (put d b dd [a', b, c, d] st))))
  | _ => none
theorem round4_ok : RndOk 4 round4 := by
  intro es st one dd st' h R ho hh
  rcases one with _ | ⟨a, _ | ⟨b, _ | ⟨c, _ | ⟨d, _ | ⟨x, r⟩⟩⟩⟩⟩ <;> first | exact absurd h.symm (Option.some_ne_none st') | skip
  rw [round4] at h
  obtain ⟨ha, h⟩ := forceC_some h
  obtain ⟨hb, h⟩ := forceC_some h
  obtain ⟨hc, h⟩ := forceC_some h
  obtain ⟨hd, h⟩ := forceC_some h
  obtain ⟨e0, P0⟩ := rnd_next (n := 4) 0 rfl (by decide) hh ⟨rfl, R, ho⟩ ha
  obtain ⟨e1, P1⟩ := rnd_next (n := 4) 1 rfl (by decide) hh P0 hb
  obtain ⟨e2, P2⟩ := rnd_next (n := 4) 2 rfl (by decide) hh P1 hc
  obtain ⟨e3, P3⟩ := rnd_next (n := 4) 3 rfl (by decide) hh P2 hd
  cases h
  exact ⟨e3, P3.1, P3.2.1⟩
noncomputable def round5 (dd : Nat) (st : FarB × Nat) : List Nat → Option (FarB × Nat)
  | [a, b, c, d, e] =>
    forceC (third e a) fun a' => forceC (third a b) fun b' => forceC (third b c) fun c' => forceC (third c d) fun d' => forceC (third d e) fun e' => 
    some (put d a dd [a, b, c, d, e'] (put c e dd [a, b, c, d', e] (put b d dd [a, b, c', d, e] (put a c dd [a, b', c, d, e] (put e b dd [a', b, c, d, e] st)))))
  | _ => none
theorem round5_ok : RndOk 5 round5 := by
  intro es st one dd st' h R ho hh
  rcases one with _ | ⟨a, _ | ⟨b, _ | ⟨c, _ | ⟨d, _ | ⟨e, _ | ⟨x, r⟩⟩⟩⟩⟩⟩ <;> first | exact absurd h.symm (Option.some_ne_none st') | skip
  rw [round5] at h
  obtain ⟨ha, h⟩ := forceC_some h
  obtain ⟨hb, h⟩ := forceC_some h
  obtain ⟨hc, h⟩ := forceC_some h
  obtain ⟨hd, h⟩ := forceC_some h
  obtain ⟨he, h⟩ := forceC_some h
  obtain ⟨e0, P0⟩ := rnd_next (n := 5) 0 rfl (by decide) hh ⟨rfl, R, ho⟩ ha
  obtain ⟨e1, P1⟩ := rnd_next (n := 5) 1 rfl (by decide) hh P0 hb
  obtain ⟨e2, P2⟩ := rnd_next (n := 5) 2 rfl (by decide) hh P1 hc
  obtain ⟨e3, P3⟩ := rnd_next (n := 5) 3 rfl (by decide) hh P2 hd
  obtain ⟨e4, P4⟩ := rnd_next (n := 5) 4 rfl (by decide) hh P3 he
  cases h
  exact ⟨e4, P4.1, P4.2.1⟩
noncomputable def round6 (dd : Nat) (st : FarB × Nat) : List Nat → Option (FarB × Nat)
  | [a, b, c, d, e, f] =>
    forceC (third f a) fun a' => forceC (third a b) fun b' => forceC (third b c) fun c' => forceC (third c d) fun d' => forceC (third d e) fun e' => forceC (third e f) fun f' => 
    some (put e a dd [a, b, c, d, e, f'] (put d f dd [a, b, c, d, e', f] (put c e dd [a, b, c, d', e, f] (put b d dd [a, b, c', d, e, f] (put a c dd [a, b', c, d, e, f] (put f b dd [a', b, c, d, e, f] st))))))
  | _ => none
theorem round6_ok : RndOk 6 round6 := by
  intro es st one dd st' h R ho hh
  rcases one with _ | ⟨a, _ | ⟨b, _ | ⟨c, _ | ⟨d, _ | ⟨e, _ | ⟨f, _ | ⟨x, r⟩⟩⟩⟩⟩⟩⟩ <;> first | exact absurd h.symm (Option.some_ne_none st') | skip
  rw [round6] at h
  obtain ⟨ha, h⟩ := forceC_some h
  obtain ⟨hb, h⟩ := forceC_some h
  obtain ⟨hc, h⟩ := forceC_some h
  obtain ⟨hd, h⟩ := forceC_some h
  obtain ⟨he, h⟩ := forceC_some h
  obtain ⟨hf, h⟩ := forceC_some h
  obtain ⟨e0, P0⟩ := rnd_next (n := 6) 0 rfl (by decide) hh ⟨rfl, R, ho⟩ ha
  obtain ⟨e1, P1⟩ := rnd_next (n := 6) 1 rfl (by decide) hh P0 hb
  obtain ⟨e2, P2⟩ := rnd_next (n := 6) 2 rfl (by decide) hh P1 hc
  obtain ⟨e3, P3⟩ := rnd_next (n := 6) 3 rfl (by decide) hh P2 hd
  obtain ⟨e4, P4⟩ := rnd_next (n := 6) 4 rfl (by decide) hh P3 he
  obtain ⟨e5, P5⟩ := rnd_next (n := 6) 5 rfl (by decide) hh P4 hf
  cases h
  exact ⟨e5, P5.1, P5.2.1⟩
noncomputable def bfsB (rnd : Nat → FarB × Nat → List Nat → Option (FarB × Nat)) : Nat → FarB × Nat → Nat → Option (FarB × Nat)
  | 0, _, _ => none
  | f + 1, st, k => match st.1.drop k with
    | [] => some st
    | p :: _ => forceN 20 (Nat.succ p.2) fun d => match rnd d st p.1 with
      | none => none
      | some st' => bfsB rnd f st' (Nat.succ k)
theorem bfsB_ok {n : Nat} {rnd : Nat → FarB × Nat → List Nat → Option (FarB × Nat)} (ok : RndOk n rnd) (hn : n ≤ 6) : ∀ (f k : Nat) {es : Far} {st st' : FarB × Nat}, bfsB rnd f st k = some st' → Rel n es st → es.length ≤ 1 + 6 * k → k + f ≤ 120 → ∃ es', bfsF n f es k = some es' ∧ Rel n es' st'
  | 0, k, es, st, st', h, R, hl, hk => by cases h
  | f + 1, k, es, st, st', h, R, hl, hk => by
    have hlen : es.length = st.1.length := by rw [R.is]; unfold toF; rw [List.length_map]
    unfold bfsB at h
    cases hd : st.1.drop k with
    | nil =>
      rw [hd] at h
      cases h
      have : st.1.length ≤ k := List.drop_eq_nil_iff.mp hd
      refine ⟨es, ?_, R⟩
      unfold bfsF
      rw [if_neg (by lia)]
    | cons p r =>
    rw [hd] at h
    simp only [forceN_is] at h
    have hk2 : k < st.1.length := by
      rcases Nat.lt_or_ge k st.1.length with h | h
      · exact h
      · rw [List.drop_eq_nil_iff.mpr h] at hd; cases hd
    have hp : st.1[k] = p := by
      rw [List.drop_eq_getElem_cons hk2] at hd
      exact (List.cons.inj hd).1
    have hmem : p ∈ st.1 := hp ▸ List.getElem_mem hk2
    have hget : es.getD k ([], 0) = (p.1, (p.2 : Int)) := by
      rw [R.is]; unfold toF
      rw [List.getD_eq_getElem?_getD, List.getElem?_map, List.getElem?_eq_getElem hk2, hp]; rfl
    cases hr : rnd (Nat.succ p.2) st p.1 with
    | none => rw [hr] at h; cases h
    | some st1 =>
    rw [hr] at h
    obtain ⟨es1, e1, R1⟩ := ok es st p.1 p.2 st1 hr R (R.one p hmem) (R.hue p hmem).2
    have hl1 := roundF_len e1
    obtain ⟨es2, e2, R2⟩ := bfsB_ok ok hn f (k + 1) h R1 (by lia) (by lia)
    refine ⟨es2, ?_, R2⟩
    unfold bfsF
    rw [if_pos (by lia), hget, if_pos ⟨(R.hue p hmem).1, by lia⟩, e1]
    exact e2
noncomputable def rndOf (n : Nat) : Nat → FarB × Nat → List Nat → Option (FarB × Nat) := bif Nat.beq n 4 then round4 else bif Nat.beq n 5 then round5 else round6
theorem rndOf_ok {n : Nat} (h4 : 4 ≤ n) (h6 : n ≤ 6) : RndOk n (rndOf n) := by
  have : n = 4 ∨ n = 5 ∨ n = 6 := by lia
  rcases this with rfl | rfl | rfl
  · exact round4_ok
  · exact round5_ok
  · exact round6_ok
theorem bfs_start {n : Nat} {w : List Nat} (hl : w.length = n) (hh : ∀ c ∈ w, isHue c) : Rel n [(w, 0)] ([(w, 0)], Nat.pow 2 (codeW w)) := by
  refine ⟨rfl, fun p hp => by rw [List.mem_singleton.mp hp]; exact ⟨hl, hh⟩, fun w2 h1 h2 => ?_, fun p hp => ?_⟩
  · show hasB (2 ^ codeW w) (codeW w2) = _
    rw [hasB_is, Nat.testBit_two_pow]
    by_cases e : w = w2
    · subst e; simp [lkE]
    · rw [decide_eq_false (fun h => e (codeW_inj (hl.trans h1.symm) hh h2 h))]
      simp [lkE, e]
  · rw [List.mem_singleton.mp hp]; simp [lkE]

/- a painting, quick in the kernel -/
noncomputable def pats : Nat → List (List Bool)
  | 0 => [[]]
  | n + 1 => (pats n).map (true :: ·) ++ (pats n).map (false :: ·)
noncomputable def upsN : List Bool → Nat
  | [] => 0
  | b :: r => bif b then Nat.succ (upsN r) else upsN r
noncomputable def validN (n : Nat) (bs : List Bool) : Bool := Nat.beq (Nat.mod (Nat.add (Nat.mul 2 (upsN bs)) (Nat.mul 2 n)) 3) 0
noncomputable def hGoN : Nat → List Bool → List Nat
  | _, [] => []
  | h, b :: r => h :: hGoN (bif b then Nat.succ h else Nat.pred h) r
noncomputable def hueN (h : Nat) : Nat := bif Nat.beq (Nat.mod h 3) 0 then 114 else bif Nat.beq (Nat.mod h 3) 1 then 103 else 98
noncomputable def idxN (c : Nat) : Nat := bif Nat.beq c 114 then 0 else bif Nat.beq c 103 then 1 else 2
noncomputable def fwdN (c d : Nat) : Bool := bif Nat.beq c 114 then Nat.beq d 103 else bif Nat.beq c 103 then Nat.beq d 98 else Nat.beq d 114
noncomputable def aGoN : Nat → List Bool → List Nat → List Nat
  | x, b :: bs, c :: r => x :: (match r with
    | [] => []
    | c' :: _ => aGoN (Nat.sub (bif b then Nat.add x 2 else x) (bif fwdN c c' then 2 else 0)) bs r)
  | _, _, _ => []
noncomputable def insN (a : Nat) : List Nat → List Nat
  | [] => [a]
  | b :: r => bif Nat.ble a b then a :: b :: r else b :: insN a r
noncomputable def srtN : List Nat → List Nat
  | [] => []
  | a :: r => insN a (srtN r)
noncomputable def costN (y : Nat) : List Nat → Nat
  | [] => 0
  | a :: r => Nat.add (Nat.add (Nat.sub a y) (Nat.sub y a)) (costN y r)
noncomputable def lowN (q6 : Nat) : List Nat → List Nat → List Nat
  | h :: hs, a :: as => Nat.sub (Nat.add h q6) a :: lowN q6 hs as
  | _, _ => []
noncomputable def sumN : List Nat → Nat
  | [] => 0
  | a :: r => Nat.add a (sumN r)
noncomputable def maxN2 : List Nat → List Nat → Nat
  | h :: hs, l :: ls => Nat.add (bif Nat.ble l h then h else l) (maxN2 hs ls)
  | _, _ => 0
noncomputable def rngN : List Nat → Bool
  | [] => true
  | a :: r => bif Nat.ble 8 a then bif Nat.ble 30 a then false else rngN r else false
noncomputable def adjN : List Nat → Bool
  | a :: r => (match r with
    | [] => true
    | b :: _ => bif Nat.beq b (Nat.succ a) then adjN r else bif Nat.beq a (Nat.succ b) then adjN r else false)
  | [] => true
noncomputable def lastN : Nat → List Nat → Nat
  | x, [] => x
  | _, a :: r => lastN a r
/- the seam: l + (u2 - n) is one beside the last -/
noncomputable def seamN (n u2 : Nat) (l : List Nat) : Bool :=
  bif Nat.beq (Nat.add (l.headD 0) u2) (Nat.succ (Nat.add (lastN 0 l) n)) then true else Nat.beq (Nat.succ (Nat.add (l.headD 0) u2)) (Nat.add (lastN 0 l) n)
noncomputable def parN : List Nat → List Nat → Bool
  | h :: hs, l :: ls => bif Nat.beq (Nat.mod (Nat.add h l) 2) 0 then parN hs ls else false
  | _, _ => true
noncomputable def beqW : List Nat → List Nat → Bool
  | [], [] => true
  | a :: as, b :: bs => bif Nat.beq a b then beqW as bs else false
  | _, _ => false
noncomputable def goodN (n u2 : Nat) (loose : Bool) (hN l : List Nat) (d : Nat) : Bool :=
  bif Nat.ble 40 d then false else bif rngN l then
    bif Nat.beq (Nat.add (Nat.mul 2 d) (Nat.add (sumN hN) (sumN l))) (Nat.mul 2 (maxN2 hN l)) then
      bif beqW hN l then true else bif loose then bif adjN l then bif seamN n u2 l then parN hN l else false else false else false
    else false
  else false
noncomputable def bestN (A : List Nat) (md q c1 c2 d : Nat) (k : Nat → Bool) : Bool :=
  bif Nat.beq (Nat.mod md 6) 0 then bif Nat.beq c1 d then k q else false
  else bif Nat.ble c1 c2 then bif Nat.beq c1 d then k q else false else bif Nat.beq c2 d then k (Nat.succ q) else false
noncomputable def wordN (n first u2 : Nat) (loose : Bool) (bs : List Bool) (hN : List Nat) (A : List Nat) (d : Nat) : Bool :=
  (fun md => bif Nat.ble 62 md then false else forceN 11 (Nat.div md 6) fun q =>
    bestN A md q (Nat.div (costN (Nat.mul 6 q) A) 2) (Nat.div (costN (Nat.mul 6 (Nat.succ q)) A) 2) d fun q' => goodN n u2 loose hN (lowN (Nat.mul 6 q') hN A) d) ((srtN A).getD (Nat.div n 2) 0)
noncomputable def startN (first c : Nat) : Nat := Nat.add 30 (Nat.mod (Nat.mul 4 (Nat.sub (Nat.add first 3) (idxN c))) 6)
noncomputable def allF (f : List Nat × Nat → Bool) : FarB → Bool
  | [] => true
  | p :: r => bif f p then allF f r else false
noncomputable def forceL {α : Type} : List Nat → (List Nat → Option α) → Option α
  | [], k => k []
  | c :: r, k => forceC c fun c' => forceL r fun r' => k (c' :: r')
noncomputable def forceH {α : Type} : List Nat → (List Nat → α) → α
  | [], k => k []
  | h :: r, k => forceN 30 h fun h' => forceH r fun r' => k (h' :: r')
noncomputable def searchN (n : Nat) (w : List Nat) : Option (FarB × Nat) := forceL w fun w => bfsB (rndOf n) 110 ([(w, 0)], Nat.pow 2 (codeW w)) 0
noncomputable def windN : Nat → List Nat → Nat
  | _, [] => 0
  | p, h :: r => Nat.add (Nat.mod (Nat.sub (Nat.add h 90) p) 3) (windN h r)
noncomputable def qs4 : List (Nat × Nat) := [(1112, 6), (77, 6), (624, 6), (1184, 6), (185, 6), (444, 6), (104, 6), (617, 6), (1092, 6), (1154, 6), (197, 6), (462, 6), (74, 6), (629, 6), (1110, 6), (182, 6), (449, 6), (1182, 6)]
noncomputable def qs5 : List (Nat × Nat) := [(6944, 6), (1157, 6), (2784, 6), (464, 6), (3749, 6), (6672, 6), (1112, 6), (2669, 6), (7104, 6), (1184, 6), (2777, 6), (6924, 6), (6584, 9), (617, 9), (3684, 9), (1154, 6), (2789, 6), (6942, 6), (6554, 9), (629, 9), (3702, 9), (6662, 9), (449, 9), (3774, 9), (7094, 9), (1097, 9), (2694, 9), (614, 9), (3689, 9), (6582, 9)]
noncomputable def qs6 : List (Nat × Nat) := [(6944, 6), (16709, 6), (41664, 6), (39344, 9), (3749, 9), (22224, 9), (39992, 9), (2669, 9), (22656, 9), (42584, 9), (6557, 9), (16176, 9), (3704, 9), (22109, 9), (39504, 9), (40064, 9), (2777, 9), (22476, 9), (42656, 9), (6665, 9), (15996, 9), (3776, 9), (22217, 9), (39324, 9), (41576, 9), (7097, 9), (16644, 9), (2696, 9), (22649, 9), (39972, 9), (6584, 9), (16169, 9), (42564, 9), (40034, 9), (2789, 9), (22494, 9), (42626, 9), (6677, 9), (16014, 9), (3746, 9), (22229, 9), (39342, 9), (41546, 9), (7109, 9), (16662, 9), (2666, 9), (22661, 9), (39990, 9), (6554, 9), (16181, 9), (42582, 9), (41654, 9), (6929, 9), (16734, 9), (2774, 9), (22481, 9), (40062, 9), (6662, 9), (16001, 9), (42654, 9), (7094, 9), (16649, 9), (41574, 9), (39494, 12), (3689, 12), (22134, 12)]
noncomputable def qsN (n : Nat) : List (Nat × Nat) := bif Nat.beq n 4 then qs4 else bif Nat.beq n 5 then qs5 else qs6
noncomputable def looseN (n w w2 : Nat) : Bool := bif Nat.beq w w2 then bif Nat.ble w n then false else bif Nat.ble (Nat.mul 2 n) w then false else true else false
noncomputable def allQ (f : Nat × Nat → Bool) : List (Nat × Nat) → Bool
  | [] => true
  | p :: r => bif f p then allQ f r else false
noncomputable def eqB (a b : Bool) : Bool := bif a then b else bif b then false else true
noncomputable def insideN (n u : Nat) : Bool := bif Nat.beq u 0 then false else bif Nat.beq u n then false else true
noncomputable def paintH (n first : Nat) (bs : List Bool) (hN : List Nat) (wi co : Nat) : Bool :=
  bif rngN hN then bif adjN hN then bif seamN n (Nat.mul 2 (upsN bs)) hN then
    match searchN n (hN.map hueN) with
    | none => false
    | some (res, M) =>
      bif Nat.ble res.length 900 then
        bif allF (fun p => wordN n first (Nat.mul 2 (upsN bs)) (insideN n (upsN bs)) bs hN (aGoN (startN first (p.1.headD 0)) bs p.1) p.2) res then
          allQ (fun q => eqB (hasB M q.1) (bif looseN n wi q.2 then true else Nat.beq q.1 co)) (qsN n)
        else false
      else false
  else false else false else false
noncomputable def paintN (n first : Nat) (bs : List Bool) : Bool :=
  forceH (hGoN (Nat.add 15 first) bs) fun hN => forceN 20 (windN (lastN 0 hN) hN) fun wi => paintH n first bs hN wi (codeW (hN.map hueN))
noncomputable def stI (b : Bool) : Int := if b = true then 1 else -1
noncomputable def prepN (n first : Nat) (bs : List Bool) : Bool :=
  decide (heightsS first (bs.map stI) = (hGoN (Nat.add 15 first) bs).map Int.ofNat) && rngN (hGoN (Nat.add 15 first) bs) && (qsN n).contains (codeW ((hGoN (Nat.add 15 first) bs).map hueN), windN (lastN 0 (hGoN (Nat.add 15 first) bs)) (hGoN (Nat.add 15 first) bs))
noncomputable def paintsN (n : Nat) : List (List Bool) := (pats n).filter (validN n)

/- the kernel looks at every painting -/
theorem prep4 : ∀ f : Fin 3, (paintsN 4).all (prepN 4 f.val) = true := by decide +kernel
theorem prep5 : ∀ f : Fin 3, (paintsN 5).all (prepN 5 f.val) = true := by decide +kernel
theorem prep6 : ∀ f : Fin 3, (paintsN 6).all (prepN 6 f.val) = true := by decide +kernel
theorem paint4 : ∀ f : Fin 3, (paintsN 4).all (paintN 4 f.val) = true := by decide +kernel
theorem paint5 : ∀ f : Fin 3, (paintsN 5).all (paintN 5 f.val) = true := by decide +kernel
theorem paint60 : (paintsN 6).all (paintN 6 0) = true := by decide +kernel
theorem paint61 : (paintsN 6).all (paintN 6 1) = true := by decide +kernel
theorem paint62 : (paintsN 6).all (paintN 6 2) = true := by decide +kernel

/- what the kernel saw, said of the program's own functions -/
theorem emod_of (x : Int) : x.fmod 3 = x % 3 := Int.fmod_eq_emod_of_nonneg _ (by decide)
noncomputable def castL (l : List Nat) : List Int := l.map Int.ofNat
theorem castL_len (l : List Nat) : (castL l).length = l.length := by unfold castL; rw [List.length_map]
theorem castL_get (l : List Nat) (p : Nat) : (castL l).getD p 0 = ((l.getD p 0 : Nat) : Int) := by
  unfold castL
  rw [List.getD_eq_getElem?_getD, List.getD_eq_getElem?_getD, List.getElem?_map]
  cases l[p]? <;> rfl
theorem hueN_is (h : Nat) : hueOf (Int.ofNat h) = hueN h := by
  unfold hueOf hueN
  rw [emod_of]
  show (if (h : Int) % 3 = 0 then 114 else if (h : Int) % 3 = 1 then 103 else 98) = _
  have : h % 3 = 0 ∨ h % 3 = 1 ∨ h % 3 = 2 := by lia
  have e : (h : Int) % 3 = ((h % 3 : Nat) : Int) := by lia
  rw [e]
  show _ = bif Nat.beq (h % 3) 0 then 114 else bif Nat.beq (h % 3) 1 then 103 else 98
  rcases this with q | q | q <;> rw [q] <;> rfl
theorem word_is (l : List Nat) : wordS (castL l) = l.map hueN := by
  unfold wordS castL
  rw [List.map_map]
  exact List.map_congr_left fun h _ => hueN_is h
/- winds -/
noncomputable def mod3L (l : List Nat) : List Int := l.map fun h : Nat => (h : Int) % 3
theorem mod3L_len (l : List Nat) : (mod3L l).length = l.length := by unfold mod3L; rw [List.length_map]
noncomputable def windZ (p : Int) : List Int → Int
  | [] => 0
  | x :: r => (x - p).fmod 3 + windZ x r
theorem windZ_is : ∀ (us : List Int) (p : Int), ((List.range us.length).map fun k => (us.getD k 0 - (if k = 0 then p else us.getD (k - 1) 0)).fmod 3).sum = windZ p us
  | [], p => rfl
  | x :: r, p => by
    rw [List.length_cons, List.range_succ_eq_map, List.map_cons, List.sum_cons, List.map_map, windZ, ← windZ_is r x]
    congr 1
    congr 1
    refine List.map_congr_left fun k _ => ?_
    show ((x :: r).getD (k + 1) 0 - (if k + 1 = 0 then p else (x :: r).getD (k + 1 - 1) 0)).fmod 3 = _
    rw [if_neg (by lia)]
    cases k with
    | zero => rfl
    | succ k => rw [if_neg (by lia)]; rfl
theorem windN_is : ∀ (l : List Nat) (p : Nat), p < 90 → (∀ h ∈ l, h < 90) → windZ ((p : Int) % 3) (mod3L l) = (windN p l : Int)
  | [], p, _, _ => rfl
  | x :: r, p, hp, hl => by
    have hx := hl x (.head _)
    show ((x : Int) % 3 - (p : Int) % 3).fmod 3 + windZ ((x : Int) % 3) (mod3L r) = (((x + 90 - p) % 3 + windN x r : Nat) : Int)
    rw [windN_is r x hx fun h hh => hl h (.tail _ hh), emod_of]
    lia
theorem rngN_all : ∀ {l : List Nat}, rngN l = true → ∀ h ∈ l, 8 ≤ h ∧ h < 30
  | a :: r, hr, h, hh => by
    unfold rngN at hr
    cases e1 : Nat.ble 8 a with
    | false => rw [e1] at hr; cases hr
    | true =>
    cases e2 : Nat.ble 30 a with
    | true => rw [e1, e2] at hr; cases hr
    | false =>
    rw [e1, e2] at hr
    have h1 := Nat.le_of_ble_eq_true e1
    have h2 : ¬ 30 ≤ a := fun q => by rw [Nat.ble_eq_true_of_le q] at e2; cases e2
    rcases List.mem_cons.mp hh with rfl | hh
    · lia
    · exact rngN_all hr h hh
theorem lastN_mem : ∀ {l : List Nat} {x : Nat}, lastN x l = x ∨ lastN x l ∈ l
  | [], x => .inl rfl
  | a :: r, x => by
    rcases lastN_mem (l := r) (x := a) with h | h
    · exact .inr (by show lastN a r ∈ _; rw [h]; exact .head _)
    · exact .inr (.tail _ h)
theorem lastN_is : ∀ {l : List Nat} {x : Nat}, (mod3L l).getLastD ((x : Int) % 3) = ((lastN x l : Nat) : Int) % 3
  | [], x => rfl
  | a :: r, x => by
    show List.getLastD ((a : Int) % 3 :: mod3L r) _ = ((lastN a r : Nat) : Int) % 3
    rw [← lastN_is (l := r) (x := a), List.getLastD_cons]
theorem hueS_is {l : List Nat} (h : ∀ x ∈ l, x < 64) : (castL l).map hueS = mod3L l := by
  unfold castL mod3L
  rw [List.map_map]
  refine List.map_congr_left fun x hx => ?_
  have := (wind_all ⟨x, h x hx⟩).2
  rw [emod_of] at this
  exact this
theorem gap_small {l : List Nat} {k : Nat} : -6 ≤ gapAt (mod3L l) k ∧ gapAt (mod3L l) k < 7 := by
  have hg : ∀ j, 0 ≤ (mod3L l).getD j 0 ∧ (mod3L l).getD j 0 < 3 := fun j => by
    rw [List.getD_eq_getElem?_getD, mod3L, List.getElem?_map]
    cases l[j]? with
    | none => exact ⟨by decide, by decide⟩
    | some x => exact ⟨by show 0 ≤ (x : Int) % 3; lia, by show (x : Int) % 3 < 3; lia⟩
  have hz : 0 ≤ (mod3L l).getLastD 0 ∧ (mod3L l).getLastD 0 < 3 := by
    have := lastN_is (l := l) (x := 0)
    rw [show ((0 : Nat) : Int) % 3 = 0 from rfl] at this
    rw [this]; lia
  unfold gapAt
  have h1 := hg k
  split
  · lia
  · have h2 := hg (k - 1); lia
theorem id3_is {x : Int} (h : -6 ≤ x ∧ x < 7) : idOk x 3 ∧ (idS x 3).2 = x.fmod 3 := by
  have := id3 ⟨(x + 6).toNat, by lia⟩
  have e : ((⟨(x + 6).toNat, by lia⟩ : Fin 13).val : Int) - 6 = x := by show (((x + 6).toNat : Nat) : Int) - 6 = x; lia
  rw [e] at this
  exact ⟨this.1, by rw [this.2]⟩
theorem winds_ok {l : List Nat} (h : ∀ x ∈ l, x < 64) : windsOk (castL l) ∧ windsS (castL l) = (windN (lastN 0 l) l : Int) := by
  refine ⟨⟨fun n hn => ?_, fun k _ => ?_⟩, ?_⟩
  · obtain ⟨x, hx, rfl⟩ := List.mem_map.mp hn
    exact (wind_all ⟨x, h x hx⟩).1
  · rw [hueS_is h]; exact (id3_is gap_small).1
  · unfold windsS
    rw [hueS_is h, castL_len]
    have e : ((List.range l.length).map fun k => (idS (gapAt (mod3L l) k) 3).2) = (List.range (mod3L l).length).map fun k => ((mod3L l).getD k 0 - (if k = 0 then ((lastN 0 l : Nat) : Int) % 3 else (mod3L l).getD (k - 1) 0)).fmod 3 := by
      rw [mod3L_len]
      refine List.map_congr_left fun k _ => ?_
      rw [(id3_is gap_small).2]
      unfold gapAt
      have := lastN_is (l := l) (x := 0)
      rw [show ((0 : Nat) : Int) % 3 = 0 from rfl] at this
      rw [this]
    rw [e, windZ_is]
    refine windN_is l _ ?_ fun x hx => Nat.lt_trans (h x hx) (by decide)
    rcases lastN_mem (l := l) (x := 0) with q | q
    · rw [q]; decide
    · exact Nat.lt_trans (h _ q) (by decide)

/- apart, its middle, the best turn -/
noncomputable def aGoZ : Int → List Int → List Nat → List Int
  | x, s :: ss, c :: r => x :: (match r with
    | [] => []
    | c' :: _ => aGoZ (x + s - (if fwdS c c' = true then 1 else -1)) ss r)
  | _, _, _ => []
theorem aGoZ_len : ∀ (ss : List Int) (cs : List Nat) (x : Int), ss.length = cs.length → (aGoZ x ss cs).length = cs.length
  | [], [], _, _ => rfl
  | s :: ss, [c], x, h => rfl
  | s :: ss, c :: c' :: r, x, h => by
    show (x :: aGoZ _ ss (c' :: r)).length = _
    rw [List.length_cons, aGoZ_len ss (c' :: r) _ (by simpa using h)]; rfl
theorem aGoZ_step : ∀ (i : Nat) (ss : List Int) (cs : List Nat) (x : Int), ss.length = cs.length → i + 1 < cs.length →
    (aGoZ x ss cs).getD (i + 1) 0 = (aGoZ x ss cs).getD i 0 + ss.getD i 0 - (if fwdS (cs.getD i 0) (cs.getD (i + 1) 0) = true then 1 else -1)
  | 0, s :: ss, [c], x, _, h => by simp at h
  | 0, [], [], x, _, h => by simp at h
  | 0, s :: [], c :: c' :: r, x, h, _ => by simp at h
  | 0, s :: s' :: ss, c :: c' :: r, x, _, _ => by
    cases r <;> rfl
  | i + 1, [], [], x, _, h => by simp at h
  | i + 1, s :: ss, [c], x, _, h => by simp at h
  | i + 1, s :: ss, c :: c' :: r, x, h, hi => aGoZ_step i ss (c' :: r) _ (by simpa using h) (by simpa using hi)
theorem take_last {l : List Int} {k : Nat} (h : k < l.length) : (l.take (k + 1)).getLastD 0 = l.getD k 0 := by
  rw [List.take_succ_eq_append_getElem h, List.getLastD_concat, List.getD_eq_getElem?_getD, List.getElem?_eq_getElem h]; rfl
theorem take_next {l : List Int} {k : Nat} (h : k < l.length) : l.take (k + 1) = l.take k ++ [l.getD k 0] := by
  rw [List.take_succ_eq_append_getElem h, List.getD_eq_getElem?_getD, List.getElem?_eq_getElem h]; rfl
theorem apart_is {steps : List Int} {first : Int} {cs : List Nat} (hl : steps.length = cs.length) (h1 : 1 ≤ cs.length) : apartS steps first cs = aGoZ (((first - idxOf (cs.getD 0 0)) * 4).fmod 6) steps cs := by
  have hlen := aGoZ_len steps cs (((first - idxOf (cs.getD 0 0)) * 4).fmod 6) hl
  have key : ∀ i, i < cs.length → aAt steps first cs i = (aGoZ (((first - idxOf (cs.getD 0 0)) * 4).fmod 6) steps cs).take (i + 1) := fun i => by
    induction i with
    | zero =>
      intro _
      cases cs with
      | nil => simp at h1
      | cons c r =>
      cases steps with
      | nil => simp at hl
      | cons s ss => rfl
    | succ k ih =>
      intro hk
      rw [aAt, ih (by lia), take_last (by omega), take_next (k := k + 1) (by omega), aGoZ_step k steps cs _ hl hk]
  unfold apartS
  rw [key _ (by lia), Nat.sub_add_cancel h1, List.take_of_length_le (by omega)]
noncomputable def offL (l : List Nat) : List Int := l.map fun a : Nat => (a : Int) - 30
theorem offL_len (l : List Nat) : (offL l).length = l.length := by unfold offL; rw [List.length_map]
theorem offL_get {l : List Nat} {p : Nat} (h : p < l.length) : (offL l).getD p 0 = ((l.getD p 0 : Nat) : Int) - 30 := by
  unfold offL
  rw [List.getD_eq_getElem?_getD, List.getD_eq_getElem?_getD, List.getElem?_map, List.getElem?_eq_getElem h]; rfl
theorem fwdN_is {c d : Nat} (hc : isHue c) (hd : isHue d) : fwdN c d = fwdS c d := by
  rcases hc with rfl | rfl | rfl <;> rcases hd with rfl | rfl | rfl <;> rfl
theorem aGoN_is : ∀ (bs : List Bool) (cs : List Nat) (x : Nat), 2 * cs.length ≤ x → (∀ c ∈ cs, isHue c) → aGoZ ((x : Int) - 30) (bs.map stI) cs = offL (aGoN x bs cs)
  | [], _, _, _, _ => rfl
  | b :: bs, [], _, _, _ => rfl
  | b :: bs, [c], x, _, _ => rfl
  | b :: bs, c :: c' :: r, x, hx, hh => by
    have hx : 2 * (r.length + 2) ≤ x := hx
    have hf := fwdN_is (hh c (.head _)) (hh c' (.tail _ (.head _)))
    show ((x : Int) - 30) :: aGoZ ((x : Int) - 30 + stI b - (if fwdS c c' = true then 1 else -1)) (bs.map stI) (c' :: r) = ((x : Int) - 30) :: offL (aGoN (Nat.sub (bif b then Nat.add x 2 else x) (bif fwdN c c' then 2 else 0)) bs (c' :: r))
    congr 1
    rw [hf, ← aGoN_is bs (c' :: r)]
    · congr 1
      cases b <;> cases fwdS c c'
      · show (x : Int) - 30 + -1 - -1 = ((x - 0 : Nat) : Int) - 30; lia
      · show (x : Int) - 30 + -1 - 1 = ((x - 2 : Nat) : Int) - 30; lia
      · show (x : Int) - 30 + 1 - -1 = ((x + 2 - 0 : Nat) : Int) - 30; lia
      · show (x : Int) - 30 + 1 - 1 = ((x + 2 - 2 : Nat) : Int) - 30; lia
    · rw [List.length_cons]
      cases b <;> cases fwdS c c'
      · show _ ≤ x - 0; lia
      · show _ ≤ x - 2; lia
      · show _ ≤ x + 2 - 0; lia
      · show _ ≤ x + 2 - 2; lia
    · exact fun d hd => hh d (.tail _ hd)
theorem aGoN_len {bs : List Bool} {cs : List Nat} {x : Nat} (hl : bs.length = cs.length) (hx : 2 * cs.length ≤ x) (hh : ∀ c ∈ cs, isHue c) : (aGoN x bs cs).length = cs.length := by
  rw [← offL_len, ← aGoN_is bs cs x hx hh, aGoZ_len _ _ _ (by rw [List.length_map, hl])]
theorem start_is {f c : Nat} (hf : f < 3) (hc : isHue c) : (((f : Int) - idxOf c) * 4).fmod 6 = (startN f c : Int) - 30 := by
  have : f = 0 ∨ f = 1 ∨ f = 2 := by lia
  rcases this with rfl | rfl | rfl <;> rcases hc with rfl | rfl | rfl <;> decide
theorem startN_ge (f c : Nat) : 12 ≤ startN f c := by unfold startN; show 12 ≤ 30 + _; lia
theorem insN_is (a : Nat) : ∀ l : List Nat, insI ((a : Int) - 30) (offL l) = offL (insN a l)
  | [] => rfl
  | b :: r => by
    show (if (a : Int) - 30 ≤ (b : Int) - 30 then _ else _) = offL (bif Nat.ble a b then a :: b :: r else b :: insN a r)
    cases e : Nat.ble a b with
    | true => rw [if_pos (by have := Nat.le_of_ble_eq_true e; lia)]; rfl
    | false =>
      rw [if_neg (fun h => by rw [Nat.ble_eq_true_of_le (by lia)] at e; cases e)]
      show _ :: insI ((a : Int) - 30) (offL r) = _
      rw [insN_is a r]; rfl
theorem srtN_is : ∀ l : List Nat, srt (offL l) = offL (srtN l)
  | [] => rfl
  | a :: r => by
    show insI ((a : Int) - 30) (srt (offL r)) = _
    rw [srtN_is r, insN_is]; rfl
theorem med_is {A : List Nat} (h1 : 1 ≤ A.length) : medS (offL A) = (((srtN A).getD (A.length / 2) 0 : Nat) : Int) - 30 := by
  unfold medS
  have hl : (srtN A).length = A.length := by
    rw [← offL_len, ← srtN_is, (srt_perm _).length_eq, offL_len]
  rw [srtN_is, offL_len, offL_get (by lia)]
theorem cost_is (q : Nat) : ∀ A : List Nat, ((offL A).map fun gap => absI (gap - 6 * ((q : Int) - 5))).sum = (costN (Nat.mul 6 q) A : Int)
  | [] => rfl
  | a :: r => by
    have ih := cost_is q r
    show absI ((a : Int) - 30 - 6 * ((q : Int) - 5)) + ((offL r).map fun gap => absI (gap - 6 * ((q : Int) - 5))).sum = (((a - 6 * q) + (6 * q - a) + costN (Nat.mul 6 q) r : Nat) : Int)
    rw [ih]
    unfold absI
    split <;> lia
theorem costS_is (A : List Nat) (q : Nat) : costS (offL A) ((q : Int) - 5) = ((Nat.div (costN (Nat.mul 6 q) A) 2 : Nat) : Int) := by
  unfold costS
  rw [cost_is, Int.fdiv_eq_ediv_of_nonneg _ (by decide)]; rfl
theorem id6_is {x : Int} (h : -32 ≤ x ∧ x < 32) : idOk x 6 ∧ idS x 6 = (x.fdiv 6, x.fmod 6) := by
  have := id6 ⟨(x + 32).toNat, by lia⟩
  have e : ((⟨(x + 32).toNat, by lia⟩ : Fin 64).val : Int) - 32 = x := by show (((x + 32).toNat : Nat) : Int) - 32 = x; lia
  rw [e] at this
  exact this
theorem best_is {A : List Nat} {md d : Nat} {k : Nat → Bool} (hm : medS (offL A) = (md : Int) - 30) (hmd : md < 62)
    (h : bestN A md (Nat.div md 6) (Nat.div (costN (Nat.mul 6 (Nat.div md 6)) A) 2) (Nat.div (costN (Nat.mul 6 (Nat.succ (Nat.div md 6))) A) 2) d k = true) :
    idOk (medS (offL A)) 6 ∧ ∃ q : Nat, bestS (offL A) = ((d : Int), (q : Int) - 5) ∧ k q = true := by
  obtain ⟨ok, e⟩ := id6_is (x := medS (offL A)) (by rw [hm]; lia)
  refine ⟨ok, ?_⟩
  have e1 : (medS (offL A)).fdiv 6 = ((md / 6 : Nat) : Int) - 5 := by rw [hm, Int.fdiv_eq_ediv_of_nonneg _ (by decide)]; lia
  have e2 : (medS (offL A)).fmod 6 = ((md % 6 : Nat) : Int) := by rw [hm, Int.fmod_eq_emod_of_nonneg _ (by decide)]; omega
  rw [e1, e2] at e
  have c1 := costS_is A (md / 6)
  have c2 := costS_is A (Nat.succ (md / 6))
  rw [show ((Nat.succ (md / 6) : Nat) : Int) - 5 = ((md / 6 : Nat) : Int) - 5 + 1 by lia] at c2
  have hbr : bestN A md (Nat.div md 6) (Nat.div (costN (Nat.mul 6 (Nat.div md 6)) A) 2) (Nat.div (costN (Nat.mul 6 (Nat.succ (Nat.div md 6))) A) 2) d k = true := h
  unfold bestN at hbr
  change costS (offL A) (((md / 6 : Nat) : Int) - 5) = ((Nat.div (costN (Nat.mul 6 (Nat.div md 6)) A) 2 : Nat) : Int) at c1
  change costS (offL A) (((md / 6 : Nat) : Int) - 5 + 1) = ((Nat.div (costN (Nat.mul 6 (Nat.succ (Nat.div md 6))) A) 2 : Nat) : Int) at c2
  generalize Nat.div (costN (Nat.mul 6 (Nat.div md 6)) A) 2 = x1 at hbr c1
  generalize Nat.div (costN (Nat.mul 6 (Nat.succ (Nat.div md 6))) A) 2 = x2 at hbr c2
  unfold bestS pairsS nearS
  rw [e]
  simp only
  cases e0 : Nat.beq (Nat.mod md 6) 0 with
  | true =>
    rw [e0] at hbr
    have hz : md % 6 = 0 := Nat.eq_of_beq_eq_true e0
    cases ex : Nat.beq x1 d with
    | false => rw [ex] at hbr; cases hbr
    | true =>
    rw [ex] at hbr
    obtain rfl := Nat.eq_of_beq_eq_true ex
    rw [if_pos (by rw [hz]; rfl)]
    refine ⟨md / 6, ?_, hbr⟩
    show (costS (offL A) (((md / 6 : Nat) : Int) - 5), ((md / 6 : Nat) : Int) - 5) = _
    rw [c1]
  | false =>
    rw [e0] at hbr
    have hz : ¬ ((md % 6 : Nat) : Int) = 0 := fun hh => by
      have : md % 6 = 0 := by lia
      rw [show Nat.mod md 6 = 0 from this] at e0; cases e0
    rw [if_neg hz]
    show ∃ q : Nat, ([(costS (offL A) (((md / 6 : Nat) : Int) - 5), ((md / 6 : Nat) : Int) - 5), (costS (offL A) (((md / 6 : Nat) : Int) - 5 + 1), ((md / 6 : Nat) : Int) - 5 + 1)] : List (Int × Int)).getD (if pairLt (costS (offL A) (((md / 6 : Nat) : Int) - 5 + 1), ((md / 6 : Nat) : Int) - 5 + 1) (costS (offL A) (((md / 6 : Nat) : Int) - 5), ((md / 6 : Nat) : Int) - 5) = true then 1 else 0) (0, 0) = _ ∧ _
    rw [c1, c2]
    unfold pairLt
    simp only
    cases ex : Nat.ble x1 x2 with
    | true =>
      rw [ex] at hbr
      have hle := Nat.le_of_ble_eq_true ex
      cases ey : Nat.beq x1 d with
      | false => rw [ey] at hbr; cases hbr
      | true =>
      rw [ey] at hbr
      obtain rfl := Nat.eq_of_beq_eq_true ey
      refine ⟨md / 6, ?_, hbr⟩
      have : (if ((x2 : Int) = (x1 : Int)) then decide (((md / 6 : Nat) : Int) - 5 + 1 < ((md / 6 : Nat) : Int) - 5) else decide ((x2 : Int) < (x1 : Int))) = false := by split <;> (rw [decide_eq_false_iff_not]; lia)
      rw [this]; rfl
    | false =>
      rw [ex] at hbr
      have hle : ¬ x1 ≤ x2 := fun q => by rw [Nat.ble_eq_true_of_le q] at ex; cases ex
      cases ey : Nat.beq x2 d with
      | false => rw [ey] at hbr; cases hbr
      | true =>
      rw [ey] at hbr
      obtain rfl := Nat.eq_of_beq_eq_true ey
      refine ⟨Nat.succ (md / 6), ?_, hbr⟩
      have : (if ((x2 : Int) = (x1 : Int)) then decide (((md / 6 : Nat) : Int) - 5 + 1 < ((md / 6 : Nat) : Int) - 5) else decide ((x2 : Int) < (x1 : Int))) = true := by rw [if_neg (by lia), decide_eq_true_iff]; lia
      rw [this]
      show ((x2 : Int), ((md / 6 : Nat) : Int) - 5 + 1) = _
      rw [show ((Nat.succ (md / 6) : Nat) : Int) - 5 = ((md / 6 : Nat) : Int) - 5 + 1 by lia]

/- the looks add up to LawOk -/
theorem beqW_is : ∀ {a b : List Nat}, beqW a b = true → a = b
  | [], [], _ => rfl
  | [], _ :: _, h => by cases h
  | _ :: _, [], h => by cases h
  | x :: a, y :: b, h => by
    unfold beqW at h
    cases e : Nat.beq x y with
    | false => rw [e] at h; cases h
    | true => rw [e] at h; rw [Nat.eq_of_beq_eq_true e, beqW_is h]
theorem lowN_len {q : Nat} : ∀ {h A : List Nat}, h.length = A.length → (lowN q h A).length = h.length
  | [], [], _ => rfl
  | x :: h, a :: A, e => by show (_ :: lowN q h A).length = _; rw [List.length_cons, lowN_len (by simpa using e)]; rfl
theorem lowN_get {q : Nat} : ∀ {h A : List Nat} {p : Nat}, p < h.length → p < A.length → (lowN q h A).getD p 0 = h.getD p 0 + q - A.getD p 0
  | x :: h, a :: A, 0, _, _ => rfl
  | x :: h, a :: A, p + 1, h1, h2 => lowN_get (h := h) (A := A) (p := p) (by simpa using h1) (by simpa using h2)
theorem getD_mem {l : List Nat} {p : Nat} (h : p < l.length) : l.getD p 0 ∈ l := by
  rw [List.getD_eq_getElem?_getD, List.getElem?_eq_getElem h]; exact List.getElem_mem h
theorem rngN_get {l : List Nat} {n : Nat} (h : rngN l = true) (hl : l.length = n) : ∀ p, p < n → 8 ≤ (castL l).getD p 0 ∧ (castL l).getD p 0 < 30 := fun p hp => by
  have := rngN_all h _ (getD_mem (l := l) (p := p) (by lia))
  rw [castL_get]; lia
theorem lows_is {n q : Nat} {h A : List Nat} (hl : h.length = n) (al : A.length = n) (r : rngN (lowN (Nat.mul 6 q) h A) = true) : lowsS n (castL h) (offL A) ((q : Int) - 5) = castL (lowN (Nat.mul 6 q) h A) := by
  have ll : (lowN (Nat.mul 6 q) h A).length = n := by rw [lowN_len (hl.trans al.symm), hl]
  refine list_ext (n := n) (by simp [lowsS]) (by rw [castL_len, ll]) fun p hp => ?_
  have hr := rngN_all r _ (getD_mem (l := lowN (Nat.mul 6 q) h A) (p := p) (by lia))
  have hg := lowN_get (q := Nat.mul 6 q) (h := h) (A := A) (p := p) (by lia) (by lia)
  unfold lowsS
  rw [range_get hp, castL_get, castL_get, offL_get (by lia), hg]
  rw [hg] at hr
  show (_ : Int) = ((h.getD p 0 + 6 * q - A.getD p 0 : Nat) : Int)
  change 8 ≤ h.getD p 0 + 6 * q - A.getD p 0 ∧ _ at hr
  omega
theorem castL_sum : ∀ l : List Nat, (castL l).sum = (sumN l : Int)
  | [] => rfl
  | a :: r => by
    show (a : Int) + (castL r).sum = ((a + sumN r : Nat) : Int)
    rw [castL_sum r]; lia
noncomputable def maxL : List Nat → List Nat → List Nat
  | h :: hs, l :: ls => (bif Nat.ble l h then h else l) :: maxL hs ls
  | _, _ => []
theorem maxL_len : ∀ {h l : List Nat}, h.length = l.length → (maxL h l).length = h.length
  | [], [], _ => rfl
  | x :: h, a :: A, e => by show (_ :: maxL h A).length = _; rw [List.length_cons, maxL_len (by simpa using e)]; rfl
theorem maxL_get : ∀ {h A : List Nat} {p : Nat}, p < h.length → p < A.length → (maxL h A).getD p 0 = bif Nat.ble (A.getD p 0) (h.getD p 0) then h.getD p 0 else A.getD p 0
  | x :: h, a :: A, 0, _, _ => rfl
  | x :: h, a :: A, p + 1, h1, h2 => maxL_get (h := h) (A := A) (p := p) (by simpa using h1) (by simpa using h2)
theorem maxL_sum : ∀ (h l : List Nat), sumN (maxL h l) = maxN2 h l
  | [], _ => rfl
  | _ :: _, [] => rfl
  | x :: h, a :: A => by show Nat.add _ (sumN (maxL h A)) = _; rw [maxL_sum h A]; rfl
theorem tops_is {n : Nat} {h l : List Nat} (hl : h.length = n) (ll : l.length = n) : (topsS n (castL h) (castL l)).sum = (maxN2 h l : Int) := by
  have : topsS n (castL h) (castL l) = castL (maxL h l) := by
    refine list_ext (n := n) (tops_len ..) (by rw [castL_len, maxL_len (hl.trans ll.symm), hl]) fun p hp => ?_
    unfold topsS
    rw [range_get hp, castL_get, castL_get, castL_get, maxL_get (by lia) (by lia)]
    cases e : Nat.ble (l.getD p 0) (h.getD p 0) with
    | true =>
      have := Nat.le_of_ble_eq_true e
      show _ = ((h.getD p 0 : Nat) : Int)
      rw [if_neg (by lia)]
    | false =>
      have : ¬ l.getD p 0 ≤ h.getD p 0 := fun q => by rw [Nat.ble_eq_true_of_le q] at e; cases e
      show _ = ((l.getD p 0 : Nat) : Int)
      rw [if_pos (by lia)]
  rw [this, castL_sum, maxL_sum]
theorem adjN_get : ∀ {l : List Nat} {p : Nat}, adjN l = true → p + 1 < l.length → l.getD (p + 1) 0 = l.getD p 0 + 1 ∨ l.getD (p + 1) 0 + 1 = l.getD p 0
  | [], p, _, h => by simp at h
  | [a], p, _, h => by simp at h
  | a :: b :: r, p, h, hp => by
    unfold adjN at h
    simp only at h
    have hb : (b = a + 1 ∨ a = b + 1) ∧ adjN (b :: r) = true := by
      cases e1 : Nat.beq b (Nat.succ a) with
      | true => rw [e1] at h; exact ⟨.inl (Nat.eq_of_beq_eq_true e1), h⟩
      | false =>
      cases e2 : Nat.beq a (Nat.succ b) with
      | true => rw [e1, e2] at h; exact ⟨.inr (Nat.eq_of_beq_eq_true e2), h⟩
      | false => rw [e1, e2] at h; cases h
    cases p with
    | zero => show b = a + 1 ∨ b + 1 = a; lia
    | succ p => exact adjN_get (l := b :: r) (p := p) hb.2 (by simpa using hp)
theorem lastN_get : ∀ {l : List Nat} {x : Nat}, 1 ≤ l.length → lastN x l = l.getD (l.length - 1) 0
  | [], x, h => by simp at h
  | [a], x, _ => rfl
  | a :: b :: r, x, _ => by
    show lastN a (b :: r) = _
    rw [lastN_get (l := b :: r) (x := a) (by simp)]; rfl
theorem ring_is {n u2 : Nat} {l : List Nat} (hl : l.length = n) (h1 : 1 ≤ n) (ha : adjN l = true) (hs : seamN n u2 l = true) : Ring n ((u2 : Int) - n) (castL l) := by
  refine ⟨by rw [castL_len, hl], fun p hp => ?_⟩
  rw [castL_get, castL_get]
  by_cases e : p + 1 = n
  · rw [if_pos e, e, Nat.mod_self]
    have hlast := lastN_get (l := l) (x := 0) (by lia)
    rw [show l.length - 1 = p by lia] at hlast
    have h0 : l.headD 0 = l.getD 0 0 := by cases l <;> rfl
    have : l.getD 0 0 + u2 = l.getD p 0 + n + 1 ∨ l.getD 0 0 + u2 + 1 = l.getD p 0 + n := by
      unfold seamN at hs
      rw [hlast, h0] at hs
      cases e1 : Nat.beq (Nat.add (l.getD 0 0) u2) (Nat.succ (Nat.add (l.getD p 0) n)) with
      | true => exact .inl (Nat.eq_of_beq_eq_true e1)
      | false => rw [e1] at hs; exact .inr (Nat.eq_of_beq_eq_true hs)
    lia
  · rw [if_neg e, Nat.mod_eq_of_lt (by lia)]
    have := adjN_get ha (p := p) (by lia)
    lia
theorem parN_get : ∀ {h l : List Nat} {p : Nat}, parN h l = true → p < h.length → p < l.length → (h.getD p 0 + l.getD p 0) % 2 = 0
  | x :: h, y :: l, p, e, h1, h2 => by
    unfold parN at e
    cases e1 : Nat.beq (Nat.mod (Nat.add x y) 2) 0 with
    | false => rw [e1] at e; cases e
    | true =>
    rw [e1] at e
    cases p with
    | zero => exact Nat.eq_of_beq_eq_true e1
    | succ p => exact parN_get (h := h) (l := l) (p := p) e (by simpa using h1) (by simpa using h2)
theorem upsN_le : ∀ bs : List Bool, upsN bs ≤ bs.length
  | [] => Nat.le_refl _
  | b :: r => by
    have := upsN_le r
    cases b
    · show upsN r ≤ r.length + 1; lia
    · show upsN r + 1 ≤ r.length + 1; lia
theorem good_is {n u d : Nat} {h l : List Nat} (h2 : 2 ≤ n) (hu : u ≤ n) (hv : (2 * u + 2 * n) % 3 = 0) (hl : h.length = n) (ll : l.length = n) (hr : rngN h = true) (ha : adjN h = true) (hs : seamN n (Nat.mul 2 u) h = true) (g : goodN n (Nat.mul 2 u) (insideN n u) h l d = true) :
    rngN l = true ∧ Good n (castL h) (castL l) ∧ 2 * (d : Int) = 2 * (topsS n (castL h) (castL l)).sum - (castL h).sum - (castL l).sum ∧ (d : Int) < 40 := by
  unfold goodN at g
  cases e0 : Nat.ble 40 d with
  | true => rw [e0] at g; cases g
  | false =>
  have hd : ¬ 40 ≤ d := fun q => by rw [Nat.ble_eq_true_of_le q] at e0; cases e0
  cases e1 : rngN l with
  | false => rw [e0, e1] at g; cases g
  | true =>
  cases e2 : Nat.beq (Nat.add (Nat.mul 2 d) (Nat.add (sumN h) (sumN l))) (Nat.mul 2 (maxN2 h l)) with
  | false => rw [e0, e1, e2] at g; cases g
  | true =>
  rw [e0, e1, e2] at g
  have hsum : 2 * d + (sumN h + sumN l) = 2 * maxN2 h l := Nat.eq_of_beq_eq_true e2
  refine ⟨rfl, ⟨by rw [castL_len, hl], by rw [castL_len, ll], rngN_get hr hl, rngN_get e1 ll, ?_⟩, ?_, by lia⟩
  · cases e3 : beqW h l with
    | true => exact .inl (by rw [beqW_is e3])
    | false =>
    cases e4 : insideN n u with
    | false => rw [e3, e4] at g; cases g
    | true =>
    cases e5 : adjN l with
    | false => rw [e3, e4, e5] at g; cases g
    | true =>
    cases e6 : seamN n (Nat.mul 2 u) l with
    | false => rw [e3, e4, e5, e6] at g; cases g
    | true =>
    rw [e3, e4, e5, e6] at g
    have hin : u ≠ 0 ∧ u ≠ n := by
      unfold insideN at e4
      cases q1 : Nat.beq u 0 with
      | true => rw [q1] at e4; cases e4
      | false =>
      cases q2 : Nat.beq u n with
      | true => rw [q1, q2] at e4; cases e4
      | false => exact And.intro (fun q => by rw [q] at q1; cases q1) (fun q => by rw [q, Nat.beq_refl] at q2; cases q2)
    refine .inr ⟨((Nat.mul 2 u : Nat) : Int) - n, ring_is hl (by lia) ha hs, ring_is ll (by lia) e5 e6, fun p hp => ?_, ?_, ?_, ?_⟩
    · have := parN_get g (p := p) (by lia) (by lia)
      rw [castL_get, castL_get]; lia
    · show (((2 * u : Nat) : Int) - n) % 3 = 0; lia
    · show -(n : Int) < ((2 * u : Nat) : Int) - n; lia
    · show ((2 * u : Nat) : Int) - n < n; lia
  · rw [tops_is hl ll, castL_sum, castL_sum]; lia
theorem word_ok {n f : Nat} {bs : List Bool} {h v : List Nat} {d : Nat} (h2 : 2 ≤ n) (h6 : n ≤ 6) (hf : f < 3) (hb : bs.length = n) (hv : (2 * upsN bs + 2 * n) % 3 = 0) (hl : h.length = n) (hr : rngN h = true) (ha : adjN h = true) (hs : seamN n (Nat.mul 2 (upsN bs)) h = true)
    (vl : v.length = n) (vh : ∀ c ∈ v, isHue c) (w : wordN n f (Nat.mul 2 (upsN bs)) (insideN n (upsN bs)) bs h (aGoN (startN f (v.headD 0)) bs v) d = true) : WordOk n f (bs.map stI) (castL h) v d := by
  have hst : startN f (v.headD 0) ≥ 2 * v.length := by have := startN_ge f (v.headD 0); lia
  have h0 : v.headD 0 = v.getD 0 0 := by cases v <;> rfl
  have hc0 : isHue (v.headD 0) := by
    cases v with
    | nil => simp at vl; lia
    | cons c r => exact vh c (.head _)
  have hap : apartS (bs.map stI) f v = offL (aGoN (startN f (v.headD 0)) bs v) := by
    rw [apart_is (by rw [List.length_map, hb, vl]) (by lia), ← h0, start_is hf hc0, aGoN_is bs v _ hst vh]
  have alen : (aGoN (startN f (v.headD 0)) bs v).length = n := by rw [aGoN_len (hb.trans vl.symm) hst vh, vl]
  unfold wordN at w
  generalize aGoN (startN f (v.headD 0)) bs v = A at hap alen w
  have hmed := med_is (A := A) (by lia)
  rw [alen] at hmed
  change (bif Nat.ble 62 ((srtN A).getD (n / 2) 0) then false else forceN 11 (Nat.div ((srtN A).getD (n / 2) 0) 6) fun q => _) = true at w
  generalize (srtN A).getD (n / 2) 0 = md at hmed w
  cases e0 : Nat.ble 62 md with
  | true => rw [e0] at w; cases w
  | false =>
  have hmd : md < 62 := Nat.not_le.mp fun q => by rw [Nat.ble_eq_true_of_le q] at e0; cases e0
  rw [e0, forceN_is] at w
  obtain ⟨ok, q, hbest, g⟩ := best_is (d := d) (k := fun q' => goodN n (Nat.mul 2 (upsN bs)) (insideN n (upsN bs)) h (lowN (Nat.mul 6 q') h A) d) hmed hmd w
  have ll : (lowN (Nat.mul 6 q) h A).length = n := by rw [lowN_len (hl.trans alen.symm), hl]
  obtain ⟨r, good, cost, lt⟩ := good_is h2 (hb ▸ upsN_le bs) hv hl ll hr ha hs g
  have hlow := lows_is (q := q) hl alen r
  refine ⟨vl, vh, by rw [hap]; exact ok, by rw [hap, hbest], ?_, ?_, lt⟩
  · rw [hap, hbest]; simp only; rw [hlow]; exact good
  · rw [hap, hbest]; simp only; rw [hlow]; exact cost

/- every script's painting is one that the kernel saw -/
theorem forceH_is {α : Type} : ∀ (l : List Nat) (k : List Nat → α), forceH l k = k l
  | [], _ => rfl
  | h :: r, k => by unfold forceH; rw [forceN_is, forceH_is r]
theorem forceL_some {α : Type} : ∀ {w : List Nat} {k : List Nat → Option α} {r : α}, forceL w k = some r → (∀ c ∈ w, isHue c) ∧ k w = some r
  | [], _, _, h => ⟨fun c hc => (by cases hc), h⟩
  | c :: w, k, r, h => by
    obtain ⟨hc, h⟩ := forceC_some h
    obtain ⟨hw, h⟩ := forceL_some h
    exact ⟨hue_cons hc hw, h⟩
theorem allF_is {f : List Nat × Nat → Bool} : ∀ {l : FarB}, allF f l = true → ∀ p ∈ l, f p = true
  | q :: r, h, p, hp => by
    unfold allF at h
    cases e : f q with
    | false => rw [e] at h; cases h
    | true =>
    rw [e] at h
    rcases List.mem_cons.mp hp with rfl | hp
    · exact e
    · exact allF_is h p hp
theorem allQ_is {f : Nat × Nat → Bool} : ∀ {l : List (Nat × Nat)}, allQ f l = true → ∀ p ∈ l, f p = true
  | q :: r, h, p, hp => by
    unfold allQ at h
    cases e : f q with
    | false => rw [e] at h; cases h
    | true =>
    rw [e] at h
    rcases List.mem_cons.mp hp with rfl | hp
    · exact e
    · exact allQ_is h p hp
theorem eqB_is {a b : Bool} (h : eqB a b = true) : a = b := by cases a <;> cases b <;> first | rfl | cases h
theorem looseN_is {n w w2 : Nat} : looseN n w w2 = looseB n (w : Int) (w2 : Int) := by
  unfold looseN looseB
  cases e1 : Nat.beq w w2 with
  | false =>
    have : ((w : Int) == (w2 : Int)) = false := beq_eq_false_iff_ne.mpr fun q => by
      have q : w = w2 := by lia
      rw [q, Nat.beq_refl] at e1; cases e1
    rw [this]; rfl
  | true =>
  obtain rfl := Nat.eq_of_beq_eq_true e1
  rw [beq_self_eq_true, Bool.true_and]
  cases e2 : Nat.ble w n with
  | true => rw [decide_eq_false (show ¬ (n : Int) < (w : Int) by have := Nat.le_of_ble_eq_true e2; lia)]; rfl
  | false =>
  have h2 : ¬ w ≤ n := fun q => by rw [Nat.ble_eq_true_of_le q] at e2; cases e2
  rw [decide_eq_true (show (n : Int) < (w : Int) by lia), Bool.true_and]
  cases e3 : Nat.ble (Nat.mul 2 n) w with
  | true => rw [decide_eq_false (show ¬ (w : Int) < 2 * (n : Int) by have : 2 * n ≤ w := Nat.le_of_ble_eq_true e3; lia)]; rfl
  | false =>
  have h3 : ¬ 2 * n ≤ w := fun q => by rw [show Nat.ble (Nat.mul 2 n) w = true from Nat.ble_eq_true_of_le q] at e3; cases e3
  rw [decide_eq_true (show (w : Int) < 2 * (n : Int) by lia)]; rfl
theorem hueN_hue (h : Nat) : isHue (hueN h) := by
  unfold hueN
  cases Nat.beq (Nat.mod h 3) 0 with
  | true => exact .inl rfl
  | false =>
  cases Nat.beq (Nat.mod h 3) 1 with
  | true => exact .inr (.inl rfl)
  | false => exact .inr (.inr rfl)
theorem word_hue (l : List Nat) : ∀ c ∈ l.map hueN, isHue c := fun c hc => by
  obtain ⟨h, _, rfl⟩ := List.mem_map.mp hc; exact hueN_hue h
theorem hGoN_len : ∀ (bs : List Bool) (h : Nat), (hGoN h bs).length = bs.length
  | [], _ => rfl
  | b :: r, h => by show (_ :: hGoN _ r).length = _; rw [List.length_cons, hGoN_len r]; rfl
theorem paint_ok {n f : Nat} {bs : List Bool} {l2 : List Nat} (h4 : 4 ≤ n) (h6 : n ≤ 6) (hf : f < 3) (hb : bs.length = n) (hv : (2 * upsN bs + 2 * n) % 3 = 0) (p : paintN n f bs = true)
    (ll2 : l2.length = n) (r2 : rngN l2 = true) (q2 : (codeW (l2.map hueN), windN (lastN 0 l2) l2) ∈ qsN n) : LawOk n f (bs.map stI) (castL (hGoN (Nat.add 15 f) bs)) (castL l2) := by
  unfold paintN at p
  rw [forceH_is, forceN_is] at p
  have hl : (hGoN (Nat.add 15 f) bs).length = n := by rw [hGoN_len, hb]
  generalize hGoN (Nat.add 15 f) bs = h at p hl
  unfold paintH at p
  cases e1 : rngN h with
  | false => rw [e1] at p; cases p
  | true =>
  cases e2 : adjN h with
  | false => rw [e1, e2] at p; cases p
  | true =>
  cases e3 : seamN n (Nat.mul 2 (upsN bs)) h with
  | false => rw [e1, e2, e3] at p; cases p
  | true =>
  rw [e1, e2, e3] at p
  cases es : searchN n (h.map hueN) with
  | none => rw [es] at p; cases p
  | some st =>
  obtain ⟨res, M⟩ := st
  rw [es] at p
  simp only at p
  cases e4 : Nat.ble res.length 900 with
  | false => rw [e4] at p; cases p
  | true =>
  rw [e4] at p
  obtain ⟨e5, e6⟩ : allF (fun p => wordN n f (Nat.mul 2 (upsN bs)) (insideN n (upsN bs)) bs h (aGoN (startN f (p.1.headD 0)) bs p.1) p.2) res = true ∧ allQ (fun q => eqB (hasB M q.1) (bif looseN n (windN (lastN 0 h) h) q.2 then true else Nat.beq q.1 (codeW (h.map hueN)))) (qsN n) = true := by
    cases e5 : allF (fun p => wordN n f (Nat.mul 2 (upsN bs)) (insideN n (upsN bs)) bs h (aGoN (startN f (p.1.headD 0)) bs p.1) p.2) res with
    | false => rw [e5] at p; cases p
    | true => rw [e5] at p; exact ⟨rfl, p⟩
  have w64 : ∀ {l : List Nat}, rngN l = true → ∀ x ∈ l, x < 64 := fun hr x hx => by have := rngN_all hr x hx; lia
  obtain ⟨ok1, wi1⟩ := winds_ok (w64 e1)
  obtain ⟨ok2, wi2⟩ := winds_ok (w64 r2)
  unfold searchN at es
  obtain ⟨hh, es⟩ := forceL_some es
  have wl : (h.map hueN).length = n := by rw [List.length_map, hl]
  obtain ⟨es', hbfs, R⟩ := bfsB_ok (rndOf_ok h4 h6) h6 110 0 es (bfs_start wl hh) (by simp) (by lia)
  have hlen : es'.length = res.length := by rw [R.is]; unfold toF; rw [List.length_map]
  refine ⟨h4, h6, by rw [List.length_map, hb], by rw [castL_len, hl], by rw [castL_len, ll2], ok1, ok2, 110, es', ?_, by have := Nat.le_of_ble_eq_true e4; lia, fun q hq => ?_, ?_⟩
  · rw [word_is]; exact hbfs
  · rw [R.is] at hq
    obtain ⟨q', hq', rfl⟩ := List.mem_map.mp hq
    obtain ⟨vl, vh⟩ := R.hue q' hq'
    exact word_ok (by lia) h6 hf hb hv hl e1 e2 e3 vl vh (allF_is e5 q' hq')
  · have hq := eqB_is (allQ_is e6 _ q2)
    simp only at hq
    rw [word_is, word_is, wi1, wi2, ← looseN_is, ← R.msk _ (by rw [List.length_map, ll2]) (word_hue l2)]
    show hasB M _ = _
    rw [hq]
    cases looseN n (windN (lastN 0 h) h) (windN (lastN 0 l2) l2) with
    | true => rfl
    | false =>
      show Nat.beq _ _ = (false || _)
      rw [Bool.false_or, Bool.eq_iff_iff, beq_iff_eq]
      exact ⟨fun e => codeW_inj (by rw [List.length_map, List.length_map, ll2, hl]) (word_hue l2) (word_hue h) (Nat.eq_of_beq_eq_true e), fun e => by rw [e, Nat.beq_refl]⟩
/- the steps of any script -/
theorem erase_sum : ∀ {l : List Int} {j : Nat}, j < l.length → (l.eraseIdx j).sum + l.getD j 0 = l.sum
  | a :: l, 0, _ => by show l.sum + a = _; rw [List.sum_cons]; lia
  | a :: l, j + 1, h => by
    have := erase_sum (l := l) (j := j) (by simpa using h)
    show (a :: l.eraseIdx j).sum + l.getD j 0 = _
    rw [List.sum_cons, List.sum_cons]; lia
theorem stS_all {n : Nat} {bag : List Int} {order : Int} (hb : bag.length = n) (h1 : ∀ x ∈ bag, x = 1 ∨ x = -1) : ∀ i, i ≤ n →
    (∀ x ∈ (stS n bag order i).1, x = 1 ∨ x = -1) ∧ (∀ x ∈ (stS n bag order i).2.2, x = 1 ∨ x = -1) ∧ (stS n bag order i).1.sum + (stS n bag order i).2.2.sum = bag.sum
  | 0, _ => ⟨h1, fun x hx => (by cases hx), by show bag.sum + 0 = _; lia⟩
  | i + 1, hi => by
    obtain ⟨a, b, c⟩ := stS_all (order := order) hb h1 i (by lia)
    obtain ⟨l1, l2⟩ := stS_len (order := order) hb i (by lia)
    have hp : (0 : Int) < ((n - i : Nat) : Int) := by lia
    have hf := Int.fmod_lt_of_pos ((stS n bag order i).2.1) hp
    have hn := Int.fmod_nonneg_of_pos ((stS n bag order i).2.1) hp
    have hj : ((stS n bag order i).2.1.fmod ((n - i : Nat) : Int)).toNat < (stS n bag order i).1.length := by rw [l1]; omega
    have hs := erase_sum hj
    have hm : (stS n bag order i).1.getD ((stS n bag order i).2.1.fmod ((n - i : Nat) : Int)).toNat 0 ∈ (stS n bag order i).1 := by
      rw [List.getD_eq_getElem?_getD, List.getElem?_eq_getElem hj]; exact List.getElem_mem hj
    refine ⟨fun x hx => a x (List.mem_of_mem_eraseIdx hx), fun x hx => ?_, ?_⟩
    · rcases List.mem_append.mp hx with hx | hx
      · exact b x hx
      · rw [List.mem_singleton.mp hx]; exact a _ hm
    · show (List.eraseIdx _ _).sum + (_ ++ [_]).sum = _
      rw [List.sum_append, List.sum_cons, List.sum_nil]; omega
theorem rep_sum (k : Nat) (x : Int) : (List.replicate k x).sum = k * x := by
  induction k with
  | zero => simp
  | succ k ih => rw [List.replicate_succ, List.sum_cons, ih, Int.natCast_succ, Int.add_mul]; lia
theorem steps_all {n : Nat} {turn order : Int} (h4 : 4 ≤ n) (h6 : n ≤ 6) : (stepsS n turn order).length = n ∧ (∀ x ∈ stepsS n turn order, x = 1 ∨ x = -1) ∧ (stepsS n turn order).sum % 3 = 0 := by
  have hb := bagS_len (turn := turn) h4 h6
  obtain ⟨u0, u1⟩ := ups_le (turn := turn) h4 h6
  have h1 : ∀ x ∈ bagS n turn, x = 1 ∨ x = -1 := fun x hx => by
    rcases List.mem_append.mp hx with hx | hx
    · exact .inl (List.eq_of_mem_replicate hx)
    · exact .inr (List.eq_of_mem_replicate hx)
  obtain ⟨a, b, c⟩ := stS_all (order := order) hb h1 n (Nat.le_refl _)
  obtain ⟨l1, l2⟩ := stS_len (order := order) hb n (Nat.le_refl _)
  refine ⟨l2, b, ?_⟩
  have hnil : (stS n (bagS n turn) order n).1 = [] := List.eq_nil_of_length_eq_zero (by rw [l1]; lia)
  rw [hnil] at c
  show (stS n (bagS n turn) order n).2.2.sum % 3 = 0
  have hs : (bagS n turn).sum = 2 * upsS n turn - n := by
    unfold bagS
    rw [List.sum_append, rep_sum, rep_sum]; lia
  have hm : ∃ k, upsS n turn = (2 * (n : Int)) % 3 + 3 * k := ⟨_, by unfold upsS; rw [Int.fmod_eq_emod_of_nonneg _ (show (0 : Int) ≤ 3 by decide)]⟩
  obtain ⟨k, hk⟩ := hm
  have : (0 : Int) + (stS n (bagS n turn) order n).2.2.sum = (bagS n turn).sum := c
  lia
noncomputable def bsOf (l : List Int) : List Bool := l.map fun x => decide (x = 1)
theorem bsOf_is : ∀ {l : List Int}, (∀ x ∈ l, x = 1 ∨ x = -1) → (bsOf l).map stI = l ∧ l.sum = 2 * (upsN (bsOf l) : Int) - l.length
  | [], _ => ⟨rfl, rfl⟩
  | a :: l, h => by
    obtain ⟨i1, i2⟩ := bsOf_is (l := l) fun x hx => h x (.tail _ hx)
    rcases h a (.head _) with rfl | rfl
    · refine ⟨congrArg (List.cons (1 : Int)) i1, ?_⟩
      rw [List.sum_cons, i2, List.length_cons]
      show _ = 2 * ((upsN (bsOf l) + 1 : Nat) : Int) - _
      lia
    · refine ⟨congrArg (List.cons (-1 : Int)) i1, ?_⟩
      rw [List.sum_cons, i2, List.length_cons]
      show _ = 2 * ((upsN (bsOf l) : Nat) : Int) - _
      lia
theorem pats_mem : ∀ {n : Nat} {bs : List Bool}, bs.length = n → bs ∈ pats n
  | 0, [], _ => .head _
  | n + 1, b :: bs, h => by
    have := pats_mem (n := n) (bs := bs) (by simpa using h)
    unfold pats
    cases b
    · exact List.mem_append_right _ (List.mem_map.mpr ⟨bs, this, rfl⟩)
    · exact List.mem_append_left _ (List.mem_map.mpr ⟨bs, this, rfl⟩)
theorem seen {n f : Nat} (h4 : 4 ≤ n) (h6 : n ≤ 6) (hf : f < 3) : (paintsN n).all (prepN n f) = true ∧ (paintsN n).all (paintN n f) = true := by
  have : n = 4 ∨ n = 5 ∨ n = 6 := by lia
  rcases this with rfl | rfl | rfl
  · exact ⟨prep4 ⟨f, hf⟩, paint4 ⟨f, hf⟩⟩
  · exact ⟨prep5 ⟨f, hf⟩, paint5 ⟨f, hf⟩⟩
  · refine ⟨prep6 ⟨f, hf⟩, ?_⟩
    have : f = 0 ∨ f = 1 ∨ f = 2 := by lia
    rcases this with rfl | rfl | rfl
    · exact paint60
    · exact paint61
    · exact paint62
theorem one_of {n : Nat} {turn order c : Int} (h4 : 4 ≤ n) (h6 : n ≤ 6) : ∃ (f : Nat) (bs : List Bool), c.fmod 3 = (f : Int) ∧ f < 3 ∧ stepsS n turn order = bs.map stI ∧ bs.length = n ∧ (2 * upsN bs + 2 * n) % 3 = 0 ∧
    heightsS (f : Int) (bs.map stI) = castL (hGoN (Nat.add 15 f) bs) ∧ rngN (hGoN (Nat.add 15 f) bs) = true ∧ (codeW ((hGoN (Nat.add 15 f) bs).map hueN), windN (lastN 0 (hGoN (Nat.add 15 f) bs)) (hGoN (Nat.add 15 f) bs)) ∈ qsN n ∧ paintN n f bs = true := by
  obtain ⟨s1, s2, s3⟩ := steps_all (turn := turn) (order := order) h4 h6
  generalize stepsS n turn order = steps at s1 s2 s3
  obtain ⟨b1, b2⟩ := bsOf_is s2
  have hbl : (bsOf steps).length = n := by unfold bsOf; rw [List.length_map, s1]
  have hv : (2 * upsN (bsOf steps) + 2 * n) % 3 = 0 := by rw [b2, s1] at s3; lia
  have hc0 := Int.fmod_nonneg_of_pos c (show (0 : Int) < 3 by decide)
  have hc1 := Int.fmod_lt_of_pos c (show (0 : Int) < 3 by decide)
  obtain ⟨f, hf⟩ : ∃ f : Nat, c.fmod 3 = (f : Int) := ⟨(c.fmod 3).toNat, by lia⟩
  have hf3 : f < 3 := by lia
  obtain ⟨p1, p2⟩ := seen h4 h6 hf3
  have hm : bsOf steps ∈ paintsN n := List.mem_filter.mpr ⟨pats_mem hbl, by
    unfold validN
    show Nat.beq ((2 * upsN (bsOf steps) + 2 * n) % 3) 0 = true
    rw [hv]; rfl⟩
  have q1 := List.all_eq_true.mp p1 _ hm
  have q2 := List.all_eq_true.mp p2 _ hm
  unfold prepN at q1
  rw [Bool.and_eq_true, Bool.and_eq_true, decide_eq_true_iff] at q1
  obtain ⟨⟨q1, q3⟩, q4⟩ := q1
  exact ⟨f, bsOf steps, hf, hf3, b1.symm, hbl, hv, q1, q3, by simpa using q4, q2⟩
theorem law_pure (cs : List Int) : LawOk (nC cs) ((cs.getD 1 0).fmod 3) (stA cs) (hsA cs) (hsB cs) := by
  obtain ⟨_, h4, h6⟩ := nC_is cs
  obtain ⟨f, bs, e1, e2, e3, e4, e5, e6, e7, e8, e9⟩ := one_of (turn := (cs.getD 1 0).fdiv 3) (order := cs.getD 2 0) (c := cs.getD 1 0) h4 h6
  obtain ⟨f2, bs2, d1, d2, d3, d4, d5, d6, d7, d8, d9⟩ := one_of (turn := (cs.getD 1 0).fdiv 3 + (cs.getD 3 0).fdiv 3) (order := cs.getD 4 0) (c := cs.getD 3 0) h4 h6
  unfold hsA hsB stB stA
  rw [e3, d3, e1, d1, e6, d6]
  exact paint_ok h4 h6 e2 e4 e5 e9 (by rw [hGoN_len, d4]) d7 d8

/- the top: what the head leaves, looked at once by the kernel -/
noncomputable def FQ (Q : AV → HS → Prop) : FL → Loc → HS → Prop := fun fl _ H' => ∃ v, fl = .ret v ∧ Q v H'
theorem enterT {C : Cx} {A : Around} {names : List (Str × NameKind)} {H : HS} {f : Addr} {fd : FuncData} {body : List Stmt} {ps locs : List Str} {args : List AV} {Q : AV → HS → Prop} {n : Nat} (G : C.Ok) (X : FnHere C H f fd) (Y : FnS fd body names []) (R : Rm A (n + 1))
    (Vs : List Value) (hV : All2 args Vs) (hp : bindArgs fd ⟨Vs, []⟩ = pure (ps.zip Vs)) (hl : ps.length = args.length)
    (st : (names.map (·.1)).Nodup ∧ (∀ p ∈ names, p.2 ≠ .globalImplicit → p.1 ≠ "__debug__") ∧ locs.Nodup) (hc0 : cellNames names = [])
    (h : ∀ env, EnvOk env names [] → BNDA C A.in1 env (ps.zip args) (locs.map fun x => (x, .undef)) H fun m₁ H₁ => EB C (A.deeper env) body env m₁ H₁ (FQ Q))
    (F : HS) (s : Shared) (R' : Result → Shared → Prop) (S : Sat C (H ++ F) s.heap) (k : ∀ v V H' h' tk', Is v V → Q v H' → Sat C (H' ++ F) h' → R' (.ok (.ret V)) { s with heap := h', toks := tk' }) : codeAny C.M A (.call (.ref f) ⟨Vs, []⟩) R' s := by
  obtain ⟨⟨o, ho, hd⟩, hcd⟩ := X F s.heap S
  refine codeAny_mono (R := fun r s' => match r with | .ok (.ret v) => R' (.ok (.ret v)) s' | _ => False) (codeAny_call_function R.room ho hd Y.co Y.gen Y.body_ hcd (hp ▸ wpAny_pure ?_)) fun r s' g => by
    cases r with
    | error e => exact g.elim
    | ok f => cases f <;> first | exact g | exact g.elim
  refine Tr.newEnv (H := H) (locs := locs) st.2.2 (Q := fun env' H' => ∃ m' H'', H' = (env'.locals, .ns m') :: H'' ∧ EB C (A.deeper env') body env' m' H'' (FQ Q)) (fun L' cs hc => ?_) F s _ _ S fun env' H' h₁ t₁ ⟨m', H'', e, q⟩ S₁ => ?_
  · rw [Y.names_, hc0] at hc
    have hc : cs = [] := List.eq_nil_of_length_eq_zero hc
    subst hc
    have E₁ : EnvOk (newEnv fd.scope L' fd.globals (((cellNames fd.scope.names).zip []).reverse ++ fd.closure) (fd.qualname ++ ".<locals>.") (some f) fd.code none fd.builtins) names [] :=
      ⟨Y.kind, Y.names_, st.1, st.2.1, Y.globals, Y.builtins, fun x c hx => by cases hx⟩
    refine BNDA.to hV hl ?_
    exact h _ E₁
  · subst e
    refine ⟨G.nolimit.keeps S₁.keep, codeAny_func ?_⟩
    refine q F { s with heap := h₁, toks := t₁ } _ _ S₁ fun fl H' h₂ t₂ ⟨f', m₂, H₂, e, i, q⟩ S₂ => ?_
    subst e
    obtain ⟨v, rfl, q⟩ := q
    cases fl <;> first | cases i; done | skip
    exact k _ _ _ _ _ i q (S₂.of_sublist (List.sublist_cons_self ..))

noncomputable abbrev FRec := FuncBody × Scope × Arguments × Value × Value × Str × Value × Addr × Addr × List (Str × Addr)
noncomputable def fnObs (h : Heap) (a : Addr) : Option FRec := (h.get? a).bind fun o => match o.data with
  | .func fd => some (fd.body, fd.scope, fd.params, fd.defaults, fd.kwdefaults, fd.qualname, fd.code, fd.globals, fd.builtins, fd.closure)
  | _ => none
noncomputable def fdParts : Option Stmt → Option (List Stmt × Arguments × Scope)
  | some (.FunctionDef _ ps body _ _ _ scope _ _ _) => some (body, ps, scope)
  | _ => none
noncomputable def stFn (st : Option Stmt) (q : Str) (d : Value) (a : Addr) : Option FRec := (fdParts st).map fun p => (.stmts p.1, p.2.2, p.2.1, d, .none, q, .ref (a - 1), mainGlobals, builtinsNs, [])
noncomputable def topAt (k : Nat) : Option Stmt := PySem.Challenge.pw_tl0053_01.main.body[k]?
noncomputable def fnTab : List (Addr × Option Stmt × Str × Value) :=
  [(45, topAt 4, "_div2n1n", .none), (52, topAt 5, "_div3n2n", .none), (59, topAt 6, "_int2digits", .none), (66, topAt 7, "_digits2int", .none), (73, topAt 8, "_divmod_pos", .none), (80, topAt 9, "int_divmod", .none),
   (87, topAt 11, "rgb_to_hsv", .none), (94, topAt 12, "hsv_to_rgb", .none), (111, topAt 17, "quotedata", .none),
   (136, clsBody[0]?, "Headers.__init__", .ref 129), (143, clsBody[1]?, "Headers._convert_string_type", .none), (150, clsBody[2]?, "Headers.__len__", .none), (157, clsBody[3]?, "Headers.__setitem__", .none), (162, clsBody[4]?, "Headers.__delitem__", .none),
   (191, clsBody[8]?, "Headers.get", .ref 184), (196, clsBody[9]?, "Headers.keys", .none), (208, clsBody[11]?, "Headers.items", .none), (234, clsBody[15]?, "Headers.setdefault", .none),
   (255, topAt 23, "_law_cells", .none), (262, topAt 24, "_law_steps", .none), (269, topAt 25, "_law_heights", .none), (274, topAt 26, "_law_word", .none), (281, topAt 27, "_law_far", .none), (286, topAt 28, "_law_light", .none), (291, topAt 29, "_law_winds", .none),
   (298, topAt 30, "_law_apart", .none), (303, topAt 31, "_law_best", .none), (310, topAt 32, "_law_book", .none), (315, topAt 33, "_law_raise", .none), (320, topAt 34, "_law_meet", .none), (327, topAt 35, "law", .none)]
noncomputable def isB : AV → Value → Bool
  | .int a, .int b _ => a == b
  | .str a, .str b _ => a == b
  | .ref a, .ref b => a == b
  | .ty a, .type b => a == b
  | .bi a, .builtin b => a == b
  | _, _ => false
theorem isB_is {a : AV} {v : Value} (h : isB a v = true) : Is a v := by
  unfold isB at h
  split at h <;> first | (rw [beq_iff_eq] at h; subst h; constructor) | cases h
noncomputable def glChk (h : Heap) (p : Str × AV) : Bool := p.1 != "__debug__" && p.1 != "__name__" && match h.nsMap mainGlobals p.1 with
  | some V => isB p.2 V
  | none => (bootBuiltins p.1).any (isB p.2)
noncomputable def codeChk (h : Heap) (c : Addr) (q : Str) : Bool := (h.get? c).any fun (o : Obj) => match o.data with
  | .fields vs => (match (vs[1]? : Option Value) with
    | some (.str n _) => n == q
    | _ => false)
  | _ => false
noncomputable def patChk (h : Heap) (a T : Addr) (code : List Nat) : Bool := ((h.get? a).any fun o => o.cls == .type "re.Pattern" && o.dict.isNone && o.slots.isEmpty && match o.data with
    | .fields fs => fs.getD 5 .none == .ref T && PySem.Builtin.Re.reRawNat (fs.getD 2 .none) == 0 && PySem.Builtin.Re.reRawNat (fs.getD 6 .none) == 0
    | _ => false) && (h.get? T).any fun o => o.cls == .type "tuple" && o.dict.isNone && o.slots.isEmpty && match o.data with
    | .seq ws _ => ((ws.map PySem.Builtin.Re.reRawOf).map (·.toNat)).toList == code
    | _ => false
noncomputable def hdChk (h : Heap) (c P : Addr) : Bool := (h.get? c).any fun o => o.cls == .type "code" && match o.data with
  | .fields vs => vs[11]? == some (.ref P) && vs.getD 11 .none == .ref P && (match vs.getD 18 .none with | .str _ _ => true | _ => false) && (match vs.getD 7 .none with | .int _ _ => true | _ => false) && (match vs.getD 9 .none with | .bool _ => true | _ => false) && (match vs.getD 10 .none with | .int _ _ => true | _ => false)
  | _ => false
noncomputable def fragAt (h : Heap) (as : List Addr) : Frag := as.filterMap fun a => (h.get? a).map (a, ·)
noncomputable def hdrAs : List Addr := [243, 244, 136, 143, 150, 157, 162, 191, 196, 208, 234]
noncomputable def topChk (h : Heap) : Bool :=
  GL.all (glChk h) && fnTab.all (fun p => codeChk h (p.1 - 1) p.2.2.1) && patChk h 99 98 code1 && patChk h 104 103 code2 && patChk h 116 115 codeN && patChk h 121 120 codeV &&
  hdChk h 58 54 && hdChk h 65 61 && (h.get? sysModules).isSome && hdrChk (fragAt h hdrAs) && (h.nsMap mainGlobals "law").any (isB (.ref 327))
noncomputable abbrev TAl := Bool × List (Option FRec) × List (Option Obj)
noncomputable def topObs (h : Heap) : TAl := (topChk h, fnTab.map (fun p => fnObs h p.1), [h.get? 54, h.get? 61, h.get? 129, h.get? 184])
noncomputable def topVal : TAl := (true, fnTab.map (fun p => stFn p.2.1 p.2.2.1 p.2.2.2 p.1), [some (tabObj #[]), some (tabObj #[]), some { cls := .type "tuple", data := .seq #[.none] 0 }, some { cls := .type "tuple", data := .seq #[.none] 0 }])
noncomputable def TH : Hook where
  α := TAl
  obs := fun s => topObs s.heap
  val := fun _ => topVal
  says := fun _ h => ∃ h', topObs h' = topVal ∧ ∀ b o, h'.get? b = some o → h.get? b = some o
  of := fun _ s e => ⟨s.heap, e, fun _ _ x => x⟩
  keeps := fun _ _ _ ⟨h', e, k⟩ k' => ⟨h', e, fun b o x => k' b o (k b o x)⟩

/- the head, in one step of the kernel -/
noncomputable def keepL : List Nat := [0, 1, 3, 4, 5, 6, 7, 8, 9, 11, 12, 14, 15, 16, 17, 19, 20, 21, 23, 24, 25, 26, 27, 28, 29, 30, 31, 32, 33, 34, 35]
noncomputable def view : Program := { PySem.Challenge.pw_tl0053_01 with main := { PySem.Challenge.pw_tl0053_01.main with body := keepL.filterMap fun i => PySem.Challenge.pw_tl0053_01.main.body[i]? } }
noncomputable def lse : List Str := ["_twin_re_1", "_twin_re_2", "_name_disallowed_re", "_value_disallowed_re"]
noncomputable abbrev rr : RowW := OpenRow.toRowW (PySem.Challenge.rw_tl0053_01.row)
theorem left0 : LeftO PySem.Challenge.pw_tl0053_01 view lse (fun s => xlAt view [] s && recOk rr.records s) (Hook.obs TH) (Hook.val TH) 3772 := by
  intro w
  show Option.map _ (Option.bind (Option.bind (_ : Option Shared) (fenceModules? PySem.Challenge.pw_tl0053_01)) (topFrom treeTable PySem.Challenge.pw_tl0053_01 w 3772)) = _
  unfold topFrom
  rw [PySem.W.Fast.te10274390034422433532, PySem.W.Fast.te14364793385576792824, PySem.W.Fast.te4187177175401517315, PySem.W.Fast.te1435165496053646825, PySem.W.Fast.te14289696077712309145, PySem.W.Fast.te14082659384304107361]
  kernel_rfl

/- what the head leaves, as the walks ask for it -/
noncomputable def fdB (st : Option Stmt) : List Stmt := ((fdParts st).map (·.1)).getD []
noncomputable def fdP (st : Option Stmt) : Arguments := ((fdParts st).map (·.2.1)).getD default
noncomputable def fdS (st : Option Stmt) : Scope := ((fdParts st).map (·.2.2)).getD default
noncomputable def fdIs (st : Option Stmt) : Bool := (fdParts st).isSome
theorem stFn_eq {st : Option Stmt} {q : Str} {d : Value} {a : Addr} (h : fdIs st = true) : stFn st q d a = some (.stmts (fdB st), fdS st, fdP st, d, .none, q, .ref (a - 1), mainGlobals, builtinsNs, []) := by
  unfold fdIs at h
  unfold stFn fdB fdS fdP
  generalize fdParts st = o at h ⊢
  cases o with
  | none => cases h
  | some p => rfl
structure FD (fd : FuncData) (st : Option Stmt) (q : Str) (d : Value) (a : Addr) : Prop where
  body : fd.body = .stmts (fdB st)
  sc : fd.scope = fdS st
  ps : fd.params = fdP st
  d : fd.defaults = d
  kw : fd.kwdefaults = .none
  q : fd.qualname = q
  code : fd.code = .ref (a - 1)
  globals : fd.globals = mainGlobals
  builtins : fd.builtins = builtinsNs
  closure : fd.closure = []
set_option tactic.hygienic true in
theorem fn_of {h : Heap} {a : Addr} {st : Option Stmt} {q : Str} {d : Value} (hd : fdIs st = true) (e : fnObs h a = stFn st q d a) : ∃ o fd, h.get? a = some o ∧ o.data = .func fd ∧ FD fd st q d a := by
  rw [stFn_eq hd] at e
  unfold fnObs at e
  obtain ⟨o, ho, e⟩ := Option.bind_eq_some_iff.mp e
  split at e
  · rename_i fd hf
    simp only [Option.some.injEq, Prod.mk.injEq] at e
    obtain ⟨e1, e2, e3, e4, e5, e6, e7, e8, e9, e10⟩ := e
    exact ⟨o, fd, ho, hf, e1, e2, e3, e4, e5, e6, e7, e8, e9, e10⟩
  · cases e
noncomputable def fdOf (P : Arguments) (q : Str) (d : Value) : FuncData := { (default : FuncData) with params := P, qualname := q, defaults := d, kwdefaults := .none }
theorem bind_fd {fd : FuncData} {st : Option Stmt} {q : Str} {d : Value} {a : Addr} (F : FD fd st q d a) (args : Args) : bindArgs fd args = bindArgs (fdOf (fdP st) q d) args := by
  obtain ⟨_, _, h1, h2, h3, h4, _⟩ := F
  cases fd
  subst h1 h2 h3 h4
  rfl
structure ScOk (sc : Scope) (names : List (Str × NameKind)) : Prop where
  kind : sc.kind = .function
  co : sc.isCoroutine = false
  gen : sc.isGenerator = false
  names_ : sc.names = names
section
variable {C : Cx} {h' : Heap}
/- the base heap keeps what the head left, but the two tables -/
noncomputable def Kept (h' h₀ : Heap) : Prop := ∀ b o, h'.get? b = some o → o ≠ tabObj #[] → h₀.get? b = some o
set_option tactic.hygienic true in
theorem code_of {h₀ : Heap} {c : Addr} {q : Str} (k : Kept h' h₀) (h : codeChk h' c q = true) : h₀.CodeRec (.ref c) q := by
  unfold codeChk at h
  obtain ⟨o, ho, h⟩ := any_some h
  split at h
  · rename_i vs hv
    split at h
    · rename_i n t hn
      refine ⟨c, o, vs, t, rfl, k _ _ ho fun q => ?_, hv, by rw [hn, beq_iff_eq.mp h]⟩
      subst q; cases hv; cases hn
    · cases h
  · cases h
theorem chk_parts (e : topObs h' = topVal) : (∀ p ∈ GL, glChk h' p = true) ∧ (∀ p ∈ fnTab, codeChk h' (p.1 - 1) p.2.2.1 = true) ∧ (patChk h' 99 98 code1 = true ∧ patChk h' 104 103 code2 = true ∧ patChk h' 116 115 codeN = true ∧ patChk h' 121 120 codeV = true) ∧
    (hdChk h' 58 54 = true ∧ hdChk h' 65 61 = true) ∧ (h'.get? sysModules).isSome = true ∧ hdrChk (fragAt h' hdrAs) = true ∧ (h'.nsMap mainGlobals "law").any (isB (.ref 327)) = true := by
  have := congrArg (·.1) e
  simp only [topObs, topVal, topChk, Bool.and_eq_true, List.all_eq_true] at this
  obtain ⟨⟨⟨⟨⟨⟨⟨⟨⟨⟨h1, h2⟩, h3⟩, h4⟩, h5⟩, h6⟩, h7⟩, h8⟩, h9⟩, h10⟩, h11⟩ := this
  exact ⟨h1, h2, ⟨h3, h4, h5, h6⟩, ⟨h7, h8⟩, h9, h10, h11⟩
theorem fn_tab (e : topObs h' = topVal) (k : Kept h' C.h₀) {i : Nat} {a : Addr} {st : Option Stmt} {q : Str} {d : Value} (hi : fnTab[i]? = some (a, st, q, d)) {names : List (Str × NameKind)} {body : List Stmt}
    (hd : fdIs st = true) (hb : fdB st = body) (S : ScOk (fdS st) names) : ∃ fd, Fn C a fd body names ∧ FD fd st q d a := by
  have hm := List.mem_of_getElem? hi
  have ht : fnTab.map (fun p => fnObs h' p.1) = fnTab.map (fun p => stFn p.2.1 p.2.2.1 p.2.2.2 p.1) := congrArg (·.2.1) e
  obtain ⟨o, fd, ho, hf, F⟩ := fn_of hd (List.map_inj_left.mp ht _ hm)
  refine ⟨fd, ⟨⟨o, k _ _ ho (fun q => by subst q; cases hf), hf⟩, ?_, by rw [F.body, hb], by rw [F.sc, S.names_], by rw [F.sc, S.kind], by rw [F.sc, S.co], by rw [F.sc, S.gen], F.globals, F.builtins, F.closure⟩, F⟩
  rw [F.code, F.q]
  exact code_of k ((chk_parts e).2.1 _ hm)
theorem fnK (e : topObs h' = topVal) (k : Kept h' C.h₀) {i : Nat} {a : Addr} {st : Option Stmt} {q : Str} (hi : fnTab[i]? = some (a, st, q, .none)) {names : List (Str × NameKind)} {body : List Stmt} {ps : List Str}
    (hd : fdIs st = true) (hb : fdB st = body) (S : ScOk (fdS st) names) (hp : ∀ Vs : List Value, Vs.length = ps.length → bindArgs (fdOf (fdP st) q .none) ⟨Vs, []⟩ = pure (ps.zip Vs)) : FnK C a body names ps := by
  obtain ⟨fd, X, F⟩ := fn_tab e k hi hd hb S
  exact ⟨fd, X, fun Vs hV => (bind_fd F _).trans (hp Vs hV)⟩
end
theorem vs0 {P : List Value → Prop} (h : P []) (Vs : List Value) (e : Vs.length = 0) : P Vs := List.eq_nil_of_length_eq_zero e ▸ h
theorem vsS {P : List Value → Prop} {n : Nat} (h : ∀ a Vs, Vs.length = n → P (a :: Vs)) (Vs : List Value) (e : Vs.length = n + 1) : P Vs := by
  cases Vs with
  | nil => cases e
  | cons a r => exact h a r (Nat.succ.inj e)
theorem vs1 {P : List Value → Prop} (h : ∀ a, P [a]) : ∀ Vs : List Value, Vs.length = 1 → P Vs := vsS fun a => vs0 (h a)
theorem vs2 {P : List Value → Prop} (h : ∀ a b, P [a, b]) : ∀ Vs : List Value, Vs.length = 2 → P Vs := vsS fun a => vs1 (h a)
theorem vs3 {P : List Value → Prop} (h : ∀ a b c, P [a, b, c]) : ∀ Vs : List Value, Vs.length = 3 → P Vs := vsS fun a => vs2 (h a)
theorem vs4 {P : List Value → Prop} (h : ∀ a b c d, P [a, b, c, d]) : ∀ Vs : List Value, Vs.length = 4 → P Vs := vsS fun a => vs3 (h a)
theorem vs6 {P : List Value → Prop} (h : ∀ a b c d e f, P [a, b, c, d, e, f]) : ∀ Vs : List Value, Vs.length = 6 → P Vs := vsS fun a => vsS fun b => vs4 (h a b)
section
variable {C : Cx} {h' : Heap}
set_option tactic.hygienic true in
theorem hd_of {c P : Addr} (h : hdChk h' c P = true) (hne : c ≠ P) : CodeHd h' c P := by
  unfold hdChk at h
  obtain ⟨o, ho, h⟩ := any_some h
  rw [Bool.and_eq_true, beq_iff_eq] at h
  obtain ⟨hc, h⟩ := h
  split at h
  · rename_i vs hv
    simp only [Bool.and_eq_true, beq_iff_eq] at h
    obtain ⟨⟨⟨⟨⟨h1, h2⟩, h3⟩, h4⟩, h5⟩, h6⟩ := h
    split at h3 <;> first | cases h3; done | skip
    split at h4 <;> first | cases h4; done | skip
    split at h5 <;> first | cases h5; done | skip
    split at h6 <;> first | cases h6; done | skip
    exact ⟨o, vs, _, _, _, _, _, _, _, ho, hc, hv, h1, h2, ‹_›, ‹_›, ‹_›, ‹_›, hne⟩
  · cases h
set_option tactic.hygienic true in
theorem pat_of {h₀ : Heap} {a T : Addr} {code : List Nat} (k : Kept h' h₀) (h : patChk h' a T code = true) : PatAt h₀ a code := by
  unfold patChk at h
  rw [Bool.and_eq_true] at h
  obtain ⟨o, ho, h1⟩ := any_some h.1
  obtain ⟨o2, ho2, h2⟩ := any_some h.2
  obtain ⟨c1, d1, dict1, sl1⟩ := o
  obtain ⟨c2, d2, dict2, sl2⟩ := o2
  simp only [Bool.and_eq_true, beq_iff_eq, Option.isNone_iff_eq_none, Array.isEmpty_iff] at h1 h2
  obtain ⟨⟨⟨rfl, rfl⟩, rfl⟩, h1⟩ := h1
  obtain ⟨⟨⟨rfl, rfl⟩, rfl⟩, h2⟩ := h2
  split at h1 <;> first | cases h1; done | skip
  split at h2 <;> first | cases h2; done | skip
  rename_i _ fs _ ws n
  simp only [Bool.and_eq_true, beq_iff_eq] at h1 h2
  obtain ⟨⟨h3, h4⟩, h5⟩ := h1
  exact ⟨fs, T, ws, n, k _ _ ho (by intro q; cases q), h3, h4, h5, k _ _ ho2 (by intro q; cases q), h2⟩
end
theorem kx_of {C : Cx} {h' : Heap} (e : topObs h' = topVal) (k : Kept h' C.h₀) (G : C.Ok) (gl : C.gl = GL) (x1 : FnKX C 59 (bodyOf 6) nm_int2digits ["a", "n"] 58 54 "_int2digits") (x2 : FnKX C 66 (bodyOf 7) nm_digits2int ["digits", "n"] 65 61 "_digits2int") : KX C where
  G := G
  gl := gl
  f_int2digits := x1
  f_digits2int := x2
  f_div2n1n := fnK e k (i := 0) rfl rfl rfl ⟨rfl, rfl, rfl, rfl⟩ (vs3 fun a b c => rfl)
  f_div3n2n := fnK e k (i := 1) rfl rfl rfl ⟨rfl, rfl, rfl, rfl⟩ (vs6 fun a b c d e f => rfl)
  f_divmod_pos := fnK e k (i := 4) rfl rfl rfl ⟨rfl, rfl, rfl, rfl⟩ (vs2 fun a b => rfl)
  f_int_divmod := fnK e k (i := 5) rfl rfl rfl ⟨rfl, rfl, rfl, rfl⟩ (vs2 fun a b => rfl)
  f_rgb := fnK e k (i := 6) rfl rfl rfl ⟨rfl, rfl, rfl, rfl⟩ (vs3 fun a b c => rfl)
  f_hsv := fnK e k (i := 7) rfl rfl rfl ⟨rfl, rfl, rfl, rfl⟩ (vs3 fun a b c => rfl)
  f_quote := fnK e k (i := 8) rfl rfl rfl ⟨rfl, rfl, rfl, rfl⟩ (vs1 fun a => rfl)
  f_cells := fnK e k (i := 18) rfl rfl rfl ⟨rfl, rfl, rfl, rfl⟩ (vs1 fun a => rfl)
  f_steps := fnK e k (i := 19) rfl rfl rfl ⟨rfl, rfl, rfl, rfl⟩ (vs3 fun a b c => rfl)
  f_heights := fnK e k (i := 20) rfl rfl rfl ⟨rfl, rfl, rfl, rfl⟩ (vs2 fun a b => rfl)
  f_word := fnK e k (i := 21) rfl rfl rfl ⟨rfl, rfl, rfl, rfl⟩ (vs1 fun a => rfl)
  f_far := fnK e k (i := 22) rfl rfl rfl ⟨rfl, rfl, rfl, rfl⟩ (vs1 fun a => rfl)
  f_light := fnK e k (i := 23) rfl rfl rfl ⟨rfl, rfl, rfl, rfl⟩ (vs1 fun a => rfl)
  f_winds := fnK e k (i := 24) rfl rfl rfl ⟨rfl, rfl, rfl, rfl⟩ (vs1 fun a => rfl)
  f_apart := fnK e k (i := 25) rfl rfl rfl ⟨rfl, rfl, rfl, rfl⟩ (vs3 fun a b c => rfl)
  f_best := fnK e k (i := 26) rfl rfl rfl ⟨rfl, rfl, rfl, rfl⟩ (vs1 fun a => rfl)
  f_book := fnK e k (i := 27) rfl rfl rfl ⟨rfl, rfl, rfl, rfl⟩ (vs2 fun a b => rfl)
  f_raise := fnK e k (i := 28) rfl rfl rfl ⟨rfl, rfl, rfl, rfl⟩ (vs2 fun a b => rfl)
  f_meet := fnK e k (i := 29) rfl rfl rfl ⟨rfl, rfl, rfl, rfl⟩ (vs4 fun a b c d => rfl)
theorem fnKX {C : Cx} {h' : Heap} (e : topObs h' = topVal) (k : Kept h' C.h₀) {i : Nat} {c P : Addr} {st : Option Stmt} {q : Str} (hi : fnTab[i]? = some (c + 1, st, q, .none)) {names : List (Str × NameKind)} {body : List Stmt} {ps : List Str}
    (hd : fdIs st = true) (hb : fdB st = body) (S : ScOk (fdS st) names) (hp : ∀ Vs : List Value, Vs.length = ps.length → bindArgs (fdOf (fdP st) q .none) ⟨Vs, []⟩ = pure (ps.zip Vs))
    (h1 : CodeHd C.h₀ c P) (h2 : C.h₀.get? P = none → ∀ h : Heap, (∀ b o, C.h₀.get? b = some o → h.get? b = some o) → h.BuiltinsAt C.mg P) : FnKX C (c + 1) body names ps c P q := by
  obtain ⟨fd, X, F⟩ := fn_tab e k hi hd hb S
  exact ⟨⟨fd, X, fun Vs hV => (bind_fd F _).trans (hp Vs hV), F.code, F.q⟩, h1, h2⟩
theorem fnG {C : Cx} {h' : Heap} (e : topObs h' = topVal) (k : Kept h' C.h₀) {i : Nat} {a : Addr} {st : Option Stmt} {q : Str} (hi : fnTab[i]? = some (a, st, q, .none)) {names : List (Str × NameKind)} {body : List Stmt} {ps kws : List Str} {n : Nat}
    (hd : fdIs st = true) (hb : fdB st = body) (S : ScOk (fdS st) names) (hp : ∀ Vs : List Value, Vs.length = n → ∀ Ks : List Value, Ks.length = kws.length → bindArgs (fdOf (fdP st) q .none) ⟨Vs, kws.zip Ks⟩ = pure (ps.zip (Vs ++ (Ks ++ [])))) : FnG C a body names ps n kws [] := by
  obtain ⟨fd, X, F⟩ := fn_tab e k hi hd hb S
  exact ⟨fd, [], X, trivial, fun s _ Vs Ks hV hK => .of_eq ((bind_fd F _).trans (hp Vs hV Ks hK))⟩
theorem fnGD {C : Cx} {h' : Heap} (e : topObs h' = topVal) (k : Kept h' C.h₀) {i : Nat} {a T : Addr} {st : Option Stmt} {q : Str} (hi : fnTab[i]? = some (a, st, q, .ref T)) (hT : h'.get? T = some { cls := .type "tuple", data := .seq #[.none] 0 }) {names : List (Str × NameKind)} {body : List Stmt} {ps : List Str} {n : Nat}
    (hd : fdIs st = true) (hb : fdB st = body) (S : ScOk (fdS st) names) (hp : ∀ Vs : List Value, Vs.length = n → ∃ kk, bindArgs (fdOf (fdP st) q (.ref T)) ⟨Vs, []⟩ = seqItems? (.ref T) >>= kk ∧ kk (some #[.none]) = pure (ps.zip (Vs ++ ([] ++ [.none])))) : FnG C a body names ps n [] [.none] := by
  obtain ⟨fd, X, F⟩ := fn_tab e k hi hd hb S
  refine ⟨fd, [.none], X, ⟨.none, trivial⟩, fun s hs Vs Ks hV hK => ?_⟩
  have : Ks = [] := List.eq_nil_of_length_eq_zero hK
  subst this
  obtain ⟨kk, e1, e2⟩ := hp Vs hV
  exact .of_defaults F.d (hs _ _ (k _ _ hT (by intro q; cases q))) rfl ((bind_fd F _).trans (F.d.symm ▸ e1)) e2
theorem kh_of {C : Cx} {h' : Heap} (e : topObs h' = topVal) (k : Kept h' C.h₀) (X : (fragAt h' hdrAs).In C.h₀) : KH C (fragAt h' hdrAs) where
  X := X
  f := .of (chk_parts e).2.2.2.2.2.1
  f_init := fnGD e k (i := 9) rfl (by have := congrArg (·.2.2) e; simp only [topObs, topVal, List.cons.injEq] at this; exact this.2.2.1) rfl rfl ⟨rfl, rfl, rfl, rfl⟩ (vs1 fun a => ⟨_, rfl, rfl⟩)
  f_conv := fnG e k (i := 10) rfl rfl rfl ⟨rfl, rfl, rfl, rfl⟩ (vs2 fun a b => vs1 fun c => rfl)
  f_len := fnG e k (i := 11) rfl rfl rfl ⟨rfl, rfl, rfl, rfl⟩ (vs1 fun a Ks hK => by cases Ks <;> first | rfl | cases hK)
  f_set := fnG e k (i := 12) rfl rfl rfl ⟨rfl, rfl, rfl, rfl⟩ (vs3 fun a b c Ks hK => by cases Ks <;> first | rfl | cases hK)
  f_del := fnG e k (i := 13) rfl rfl rfl ⟨rfl, rfl, rfl, rfl⟩ (vs2 fun a b Ks hK => by cases Ks <;> first | rfl | cases hK)
  f_get := fnGD e k (i := 14) rfl (by have := congrArg (·.2.2) e; simp only [topObs, topVal, List.cons.injEq] at this; exact this.2.2.2.1) rfl rfl ⟨rfl, rfl, rfl, rfl⟩ (vs2 fun a b => ⟨_, rfl, rfl⟩)
  f_keys := fnG e k (i := 15) rfl rfl rfl ⟨rfl, rfl, rfl, rfl⟩ (vs1 fun a Ks hK => by cases Ks <;> first | rfl | cases hK)
  f_items := fnG e k (i := 16) rfl rfl rfl ⟨rfl, rfl, rfl, rfl⟩ (vs1 fun a Ks hK => by cases Ks <;> first | rfl | cases hK)
  f_setd := fnG e k (i := 17) rfl rfl rfl ⟨rfl, rfl, rfl, rfl⟩ (vs3 fun a b c Ks hK => by cases Ks <;> first | rfl | cases hK)
  p1 := pat_of k (chk_parts e).2.2.1.1
  p2 := pat_of k (chk_parts e).2.2.1.2.1
  pn := pat_of k (chk_parts e).2.2.1.2.2.1
  pv := pat_of k (chk_parts e).2.2.1.2.2.2

/- the walks' ground, from the head's -/
noncomputable def tbs : List (Addr × Addr) := [(58, 54), (65, 61)]
section
variable {prog : Program} {w : World} {h h' : Heap} {mg mb : Str → Option Value} {p : Program} {loose : List Str} {mean : ExcName → Option Value}
theorem tbs_at (e : topObs h' = topVal) (k : ∀ b o, h'.get? b = some o → h.get? b = some o) : TabsAt tbs h := by
  have ho := congrArg (·.2.2) e
  simp only [topObs, topVal, List.cons.injEq] at ho
  intro q hq
  simp only [tbs, List.mem_cons, List.not_mem_nil, or_false] at hq
  rcases hq with rfl | rfl
  · exact ⟨(hd_of (chk_parts e).2.2.2.1.1 (by decide)).keeps k, k _ _ ho.1⟩
  · exact ⟨(hd_of (chk_parts e).2.2.2.1.2 (by decide)).keeps k, k _ _ ho.2.1⟩
theorem tbs_kept (e : topObs h' = topVal) (k : ∀ b o, h'.get? b = some o → h.get? b = some o) : Kept h' (ghostOf h tbs) := fun b o hb hn => ghost_get (tbs_at e k) (k _ _ hb) hn
theorem tbs_frag (k : ∀ b o, h'.get? b = some o → h.get? b = some o) : (fragAt h' hdrAs).In (ghostOf h tbs) := fun a o e => by
  have hm := mem_of_lookupK e
  obtain ⟨b, hb, e2⟩ := List.mem_filterMap.mp hm
  obtain ⟨o', ho', e3⟩ := Option.map_eq_some_iff.mp e2
  cases e3
  exact ghost_ne (k _ _ ho') ((show ∀ b ∈ hdrAs, b ∉ tbs.map (·.2) by decide) a hb)
theorem glob_kept (e : topObs h' = topVal) (k : ∀ b o, h'.get? b = some o → h.get? b = some o) : h.nsMap mainGlobals = h'.nsMap mainGlobals := by
  cases ho : h'.get? mainGlobals with
  | some o => funext x; unfold Heap.nsMap; rw [ho, k _ _ ho]
  | none =>
    have := (chk_parts e).1 ("_law_cells", .ref 255) (by wtm_at "m")
    unfold glChk at this
    rw [show h'.nsMap mainGlobals "_law_cells" = none by unfold Heap.nsMap; rw [ho]] at this
    exact absurd this (by decide +kernel)
noncomputable abbrev theC (prog : Program) (w : World) (h : Heap) (mg mb : Str → Option Value) : Cx := { prog, w, h₀ := ghostOf h tbs, mg, mb, gl := GL }
set_option tactic.hygienic true in
theorem ok_of (e : topObs h' = topVal) (k : ∀ b o, h'.get? b = some o → h.get? b = some o) (T : Top p loose mean mg mb h) : (theC prog w h mg mb).Ok where
  g := ghost_ns (tbs_at e k) T.g
  b := ghost_ns (tbs_at e k) T.b
  nolimit := let ⟨mc, a, r⟩ := T.nolimit; ⟨mc, ghost_ns (tbs_at e k) a, r⟩
  mods := by
    obtain ⟨o, ho⟩ := Option.isSome_iff_exists.mp (chk_parts e).2.2.2.2.1
    exact ⟨o, ghost_ne (k _ _ ho) (by decide)⟩
  gls := fun q hq => by
    have hc := (chk_parts e).1 q hq
    unfold glChk at hc
    simp only [Bool.and_eq_true, bne_iff_ne, ne_eq] at hc
    obtain ⟨⟨h1, h2⟩, hc⟩ := hc
    refine ⟨h1, ?_⟩
    have hmg : mg q.1 = h'.nsMap mainGlobals q.1 := by rw [← glob_kept e k]; exact congrFun T.g.eq_nsMap q.1
    split at hc
    · rename_i V hV
      exact ⟨V, isB_is hc, .inl (hmg.trans hV)⟩
    · rename_i hV
      obtain ⟨V, hb, hi⟩ := any_some hc
      exact ⟨V, isB_is hi, .inr ⟨hmg.trans hV, (T.builtins _ h2).trans hb⟩⟩
theorem bat_of (e : topObs h' = topVal) (k : ∀ b o, h'.get? b = some o → h.get? b = some o) (T : Top p loose mean mg mb h) {P : Addr} (hP : (ghostOf h tbs).get? P = none) (h2 : Heap) (k2 : ∀ b o, (ghostOf h tbs).get? b = some o → h2.get? b = some o) : h2.BuiltinsAt mg P := by
  obtain ⟨bm, ob, a1, a2, a3, a4, a5, a6⟩ := T.bmain
  have hg := ghost_get (tbs_at e k) a3 (fun q => by rw [q] at a4; cases a4)
  refine ⟨bm, ob, a1, a2, fun q => ?_, fun q => ?_, k2 _ _ hg, a4, a5, a6⟩
  · obtain ⟨o, es, ep, g1, g2, _⟩ := T.g
    rw [q, g1] at a3; cases a3; rw [a6] at g2; cases g2
  · rw [q, hP] at hg; cases hg
theorem hd_kept (e : topObs h' = topVal) (k : ∀ b o, h'.get? b = some o → h.get? b = some o) : CodeHd (ghostOf h tbs) 58 54 ∧ CodeHd (ghostOf h tbs) 65 61 := by
  have := ghost_code (tbs_at e k)
  exact ⟨this.1, this.2.1⟩
theorem kx_at (e : topObs h' = topVal) (k : ∀ b o, h'.get? b = some o → h.get? b = some o) (T : Top p loose mean mg mb h) : KX (theC prog w h mg mb) :=
  kx_of e (tbs_kept e k) (ok_of e k T) rfl
    (fnKX e (tbs_kept e k) (i := 2) rfl rfl rfl ⟨rfl, rfl, rfl, rfl⟩ (vs2 fun a b => rfl) (hd_kept e k).1 fun hP h2 k2 => bat_of e k T hP h2 k2)
    (fnKX e (tbs_kept e k) (i := 3) rfl rfl rfl ⟨rfl, rfl, rfl, rfl⟩ (vs2 fun a b => rfl) (hd_kept e k).2 fun hP h2 k2 => bat_of e k T hP h2 k2)
theorem kh_at (e : topObs h' = topVal) (k : ∀ b o, h'.get? b = some o → h.get? b = some o) : KH (theC prog w h mg mb) (fragAt h' hdrAs) := kh_of e (tbs_kept e k) (tbs_frag k)
theorem law_is (e : topObs h' = topVal) (k : ∀ b o, h'.get? b = some o → h.get? b = some o) (T : Top p loose mean mg mb h) : mg "law" = some (.ref 327) := by
  obtain ⟨V, hV, i⟩ := any_some (chk_parts e).2.2.2.2.2.2
  have i := isB_is i
  obtain ⟨_, rfl⟩ := i.inv
  rw [T.g.eq_nsMap, glob_kept e k]; exact hV
theorem law_at (e : topObs h' = topVal) (k : ∀ b o, h'.get? b = some o → h.get? b = some o) : FnK (theC prog w h mg mb) 327 (bodyOf 35) nm_law ["script"] := fnK e (tbs_kept e k) (i := 30) rfl rfl rfl ⟨rfl, rfl, rfl, rfl⟩ (vs1 fun a => rfl)
end

/- the law, called -/
theorem TabP.grown {P : Addr} {q : Str} {pos : Pos} {T H : HS} {C : Cx} {h : Heap} (x : TabP P q pos T) (S : Sat C H h) (hs : ∀ p ∈ T, p ∈ H) : GrownAt P h := by
  rcases x with rfl | ⟨c', oc, vs, t, rfl, _⟩
  · obtain ⟨_, o, ho, rfl⟩ := S.at_ _ (hs _ (.head _)); exact ⟨_, ho⟩
  · obtain ⟨_, o, ho, rfl⟩ := S.at_ _ (hs _ (.head _)); exact ⟨_, ho⟩
set_option tactic.hygienic true in
theorem law_walkO (d : DefRec) (kwd : List (Str × Expr)) (hn : d.name = "law") : WalkO view lse (XL view []) (Hook.says TH) rr d kwd fun f vs => PySem.call f vs := by
  intro w s₀ s₁ mg mb G Y fa o pm cd doc dV kV ho hd hcd hD hmg hg args vals as hpre hlay hrd hwl hlo
  rw [hn] at hmg
  clear hD hcd hd ho
  wrow_args hpre hlay hrd hwl hlo
  rename_i ns _ _ _ _ _ _ _ l vs _ hL _ _ _ hI _ hlen _
  obtain ⟨h', e, k⟩ := Y
  have T := G.T
  have hfa : fa = 327 := by
    have := law_is e k T
    rw [hmg] at this; cases this; rfl
  subst hfa
  refine enter_call ?_
  have hT := tbs_at e k
  refine kn_post (tabs := tbs) hT (fun _ _ => rfl) ?_
  have K := kx_at (prog := rr.prog) (w := w) e k T
  have Kh := kh_at (prog := rr.prog) (w := w) (mg := mg) (mb := mb) e k
  obtain ⟨fd, X, hp⟩ := (law_at (prog := rr.prog) (w := w) (mg := mg) (mb := mb) e k).ex
  have hn63 : ns.length ≤ 63 := by omega
  have hbl : BaseL (theC rr.prog w s₁.heap mg mb) l (ns.map .int) := ⟨_, ghost_list hT hL, by simpa using ofIntsAre hI⟩
  have S : Sat (theC rr.prog w s₁.heap mg mb) ([(54, AO.raw (tabObj #[])), (61, AO.raw (tabObj #[]))] ++ []) s₁.heap := by
    refine ⟨fun b o => of_hideAll _, by decide, fun q hq => ?_⟩
    simp only [List.append_nil, List.mem_cons, List.not_mem_nil, or_false] at hq
    rcases hq with rfl | rfl
    · exact ⟨hideAll_none _ (by decide), _, (hT (58, 54) (by decide)).2, rfl⟩
    · exact ⟨hideAll_none _ (by decide), _, (hT (65, 61) (by decide)).2, rfl⟩
  refine enterT (C := theC rr.prog w s₁.heap mg mb) (names := nm_law) (ps := ["script"]) (locs := ["script", "cells", "n", "steps", "heights", "aims", "aim", "far", "winds", "loose", "other"]) (args := [.ref l]) (n := 20)
    (Q := fun v H' => v = .bool true ∧ ∃ T' U', TabI T' ∧ TabD U' ∧ H' = T' ++ (U' ++ [])) K.G X.here X.st ⟨rfl, by decide, by decide⟩ [.ref l] ⟨.ref _, trivial⟩ (hp _ rfl) rfl (by decide) rfl (fun env E => ?_) [] s₁ _ S ?_
  · simp only [List.zip_cons_cons, List.zip_nil_left, List.map_cons, List.map_nil]
    refine STN.loc E (by wtm_at "a") (by wtm_at "a") ?_
    refine B_law K Kh (k := 12) (Rm.deeper (n := 20) ⟨rfl, by decide, by decide⟩ env) (T := [(54, AO.raw (tabObj #[]))]) (U := [(61, AO.raw (tabObj #[]))]) (H₀ := []) ?_ ?_ hbl hn63 Sub.refl rfl (law_pure _) E (fun m' T' U' hT' hU' => ⟨_, rfl, rfl, T', U', hT', hU', rfl⟩)
    · exact .inl rfl
    · exact .inl rfl
  · rintro v V H' h2 tk' hi ⟨rfl, T', U', hT', hU', rfl⟩ S₂
    cases hi
    refine ⟨⟨.inl ⟨_, .bool true, [], rfl, fun _ => rfl, ?_, ?_, ?_⟩, S₂.keep, rfl, hg⟩, ?_⟩
    · exact .bool true
    · exact postW_of (by wrow_shape) (by wtm_val) (by w_fin)
    · exact fun _ => ⟨List.nodup_nil, nofun⟩
    · exact ⟨hT'.grown S₂ fun p hp => by simp [hp], hU'.grown S₂ fun p hp => by simp [hp], trivial⟩
noncomputable def theD : DefRec × List (Str × Expr) := (defOf view rr.name).get (by decide +kernel)
theorem said0 : OpenLaw.wellSaid PySem.Challenge.rw_tl0053_01 = true := by kernel_rfl

end Mine

set_option maxRecDepth 100000 in
set_option maxHeartbeats 8000000 in
theorem PySem.Challenge.cw_tl0053_01_holds : PySem.Challenge.rw_tl0053_01.Holds := by
  w_on
  refine holds_law Mine.said0 fun said => ?_
  refine holds_open (q := Mine.view) (d := Mine.theD.1) (kwd := Mine.theD.2) (loose := Mine.lse) (Xt := fun s => xlAt Mine.view [] s && recOk Mine.rr.records s) (XP := XL Mine.view []) (Yf := Hook.obs Mine.TH) (Ya := Hook.val Mine.TH) (YP := Hook.says Mine.TH) (N := 3772) Mine.left0 (Hook.of Mine.TH) (Hook.keeps Mine.TH)
    (fun s e => xl_of s (Bool.and_eq_true_iff.mp e).1) XL.keeps (by rfl) (by rfl) (by rfl) (fun s e => recFacts_of (Bool.and_eq_true_iff.mp e).2) (by rfl) (by first | assumption | decide +kernel) (by decide +kernel) ⟨rfl, rfl, rfl, rfl, rfl, by decide +kernel⟩ ?hw (Mine.law_walkO _ _ rfl)
  case hw => w_witness2
