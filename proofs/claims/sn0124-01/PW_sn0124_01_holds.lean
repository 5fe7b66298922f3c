import PyProof.Rows.All
import Wide.All
import OpenK.AllK
import Wide.FinOn
import KE.KFromBytes
import KE.KDictList
import KE.KDictOf
import KE.KSortKey
import PySem.Challenge.RW_sn0124_01
open PySem PySem.W PyProof.Rows
set_option Elab.async false
set_option maxRecDepth 100000
set_option linter.unusedVariables false

namespace Mine
set_option maxHeartbeats 8000000 in
open_top hd for PySem.Challenge.rw_sn0124_01
end Mine

open PySem.Calls

namespace Mine

noncomputable abbrev KP (w : World) : Frag := hd.heap_39 w.params
noncomputable abbrev PG : Program := PySem.Challenge.rw_sn0124_01.row.prog
def NoE : Value → Shared → Prop := fun _ _ => False
/-- a state: what a walk leaves alone, the heap, the count of tokens -/
abbrev S (r : Shared) (h : Heap) (tk : Nat) : Shared := { r with heap := h, toks := tk }

/-! ### heaps -/
def LK (h h' : Heap) : Prop := ∀ a xs, h.IsList a xs → h'.IsList a xs
def Kp (W : Addr → Prop) (h h' : Heap) : Prop := ∀ b o, ¬ W b → h.get? b = some o → h'.get? b = some o

theorem LK.refl (h : Heap) : LK h h := fun _ _ x => x
theorem LK.trans {a b c : Heap} (x : LK a b) (y : LK b c) : LK a c := fun _ _ z => y _ _ (x _ _ z)
theorem Kp.refl (W : Addr → Prop) (h : Heap) : Kp W h h := fun _ _ _ e => e
theorem Kp.trans {W : Addr → Prop} {a b c : Heap} (x : Kp W a b) (y : Kp W b c) : Kp W a c := fun _ _ n e => y _ _ n (x _ _ n e)
theorem Kp.of_stays {W : Addr → Prop} {h h' : Heap} (k : h.StaysIn h') : Kp W h h' := fun _ _ _ e => k _ _ e
theorem Kp.of_same {W : Addr → Prop} {L : Addr} {h h' : Heap} (hW : W L) (k : Heap.SameBut L h h') : Kp W h h' := fun b _ n e => (k.2 b fun q => n (q ▸ hW)).trans e
theorem Kp.mono {W W' : Addr → Prop} {h h' : Heap} (x : Kp W h h') (hw : ∀ b, W b → W' b) : Kp W' h h' := fun b o n e => x b o (fun q => n (hw b q)) e
theorem stays_refl (h : Heap) : h.StaysIn h := fun _ _ e => e
theorem stays_trans {a b c : Heap} (x : a.StaysIn b) (y : b.StaysIn c) : a.StaysIn c := fun _ _ e => y _ _ (x _ _ e)
theorem stays_push (h : Heap) (o : Obj) : h.StaysIn (h.push o) := fun _ _ e => Heap.get?_push_of_some _ e
theorem LK.of_stays {h h' : Heap} (k : h.StaysIn h') : LK h h' := fun _ _ x => let ⟨o, ho, r⟩ := x; ⟨o, k _ _ ho, r⟩
theorem not_list_of_ns {h : Heap} {L : Addr} {m : Str → Option Value} (hn : h.Ns L m) {xs : Array Value} : ¬ h.IsList L xs := by
  rintro ⟨o, ho, _, n, hd⟩
  obtain ⟨o', es, ep, ho', hd', _⟩ := hn
  rw [ho] at ho'; cases ho'; rw [hd] at hd'; cases hd'
theorem LK.of_same {h h' : Heap} {L : Addr} (hl : ∀ xs, ¬ h.IsList L xs) (k : Heap.SameBut L h h') : LK h h' := fun a xs x => by
  obtain ⟨o, ho, r⟩ := id x
  exact ⟨o, (k.2 a (fun q => hl xs (q ▸ x))).trans ho, r⟩
theorem LK.of_kp {W : Addr → Prop} {h h' : Heap} (k : Kp W h h') (hW : ∀ b, W b → ∀ xs, ¬ h.IsList b xs) : LK h h' := fun a xs x => by
  obtain ⟨o, ho, r⟩ := id x
  exact ⟨o, k a o (fun q => hW a q xs x) ho, r⟩
def PK (h h' : Heap) : Prop := ∀ a xs, h.PlainList a xs → h'.PlainList a xs
theorem PK.refl (h : Heap) : PK h h := fun _ _ x => x
theorem PK.trans {a b c : Heap} (x : PK a b) (y : PK b c) : PK a c := fun _ _ z => y _ _ (x _ _ z)
theorem PK.of_stays {h h' : Heap} (k : h.StaysIn h') : PK h h' := fun _ _ x => x.at fun _ => k _ _
theorem PK.of_same {h h' : Heap} {L : Addr} (hl : ∀ xs, ¬ h.IsList L xs) (k : Heap.SameBut L h h') : PK h h' := fun a xs x => x.extBut k.extBut fun q => hl xs (q ▸ x.isList)
theorem isList_kp {W : Addr → Prop} {h h' : Heap} {a : Addr} {xs : Array Value} (k : Kp W h h') (x : h.IsList a xs) (hW : ¬ W a) : h'.IsList a xs := by
  obtain ⟨o, ho, r⟩ := x
  exact ⟨o, k a o hW ho, r⟩
theorem isList_inj {h : Heap} {a : Addr} {xs ys : Array Value} (x : h.IsList a xs) (y : h.IsList a ys) : xs = ys := by
  obtain ⟨o, ho, _, n, hd⟩ := x
  obtain ⟨o', ho', _, n', hd'⟩ := y
  rw [ho] at ho'; cases ho'; rw [hd] at hd'; cases hd'; rfl
theorem isList_lt {h : Heap} {a : Addr} {xs : Array Value} (x : h.IsList a xs) : a < h.objs.size := let ⟨_, ho, _⟩ := x; Heap.lt_size ho
theorem isList_some {h : Heap} {a : Addr} {xs : Array Value} (x : h.IsList a xs) : h.get? a ≠ none := fun e => by
  obtain ⟨o, ho, _⟩ := x; rw [ho] at e; cases e
theorem isList_push (h : Heap) (xs : Array Value) : (h.push { cls := .type "list", data := .seq xs }).IsList h.objs.size xs :=
  ⟨_, Heap.get?_push_size _ rfl, rfl, 0, rfl⟩
theorem get?_ge {h : Heap} {a : Addr} (ha : h.objs.size ≤ a) : h.get? a = none := by
  cases e : h.get? a with
  | none => rfl
  | some o => exact absurd (Heap.lt_size e) (Nat.not_lt.mpr ha)
theorem ns_kp {W : Addr → Prop} {h h' : Heap} {L : Addr} {m : Str → Option Value} (k : Kp W h h') (hn : h.Ns L m) (hW : ¬ W L) : h'.Ns L m := hn.at' fun o e => k _ o hW e

/-! ### lists in step -/
inductive All2 {α β : Type} (R : α → β → Prop) : List α → List β → Prop
  | nil : All2 R [] []
  | cons {a b as bs} : R a b → All2 R as bs → All2 R (a :: as) (b :: bs)
namespace All2
variable {α β γ : Type} {R S : α → β → Prop}
theorem imp {as : List α} {bs : List β} (h : All2 R as bs) (f : ∀ a b, R a b → S a b) : All2 S as bs := by
  induction h with
  | nil => exact .nil
  | cons x _ ih => exact .cons (f _ _ x) ih
theorem imp_mem {as : List α} {bs : List β} (h : All2 R as bs) (f : ∀ a b, a ∈ as → b ∈ bs → R a b → S a b) : All2 S as bs := by
  induction h with
  | nil => exact .nil
  | cons x _ ih => exact .cons (f _ _ (.head _) (.head _) x) (ih fun a b ha hb => f a b (.tail _ ha) (.tail _ hb))
theorem length {as : List α} {bs : List β} (h : All2 R as bs) : as.length = bs.length := by
  induction h with
  | nil => rfl
  | cons _ _ ih => simp [ih]
theorem append {as as' : List α} {bs bs' : List β} (h : All2 R as bs) (h' : All2 R as' bs') : All2 R (as ++ as') (bs ++ bs') := by
  induction h with
  | nil => exact h'
  | cons x _ ih => exact .cons x ih
theorem snoc {as : List α} {bs : List β} {a : α} {b : β} (h : All2 R as bs) (x : R a b) : All2 R (as ++ [a]) (bs ++ [b]) := h.append (.cons x .nil)
theorem reverse {as : List α} {bs : List β} (h : All2 R as bs) : All2 R as.reverse bs.reverse := by
  induction h with
  | nil => exact .nil
  | cons x _ ih => rw [List.reverse_cons, List.reverse_cons]; exact ih.snoc x
theorem flip {as : List α} {bs : List β} (h : All2 R as bs) : All2 (fun b a => R a b) bs as := by
  induction h with
  | nil => exact .nil
  | cons x _ ih => exact .cons x ih
theorem get {as : List α} {bs : List β} (h : All2 R as bs) : ∀ {i : Nat} {a : α}, as[i]? = some a → ∃ b, bs[i]? = some b ∧ R a b := by
  induction h with
  | nil => intro i a e; simp at e
  | cons x _ ih =>
    intro i a e
    cases i with
    | zero => simp at e; subst e; exact ⟨_, by simp, x⟩
    | succ i => simp at e; obtain ⟨b, hb, r⟩ := ih e; exact ⟨b, by simpa using hb, r⟩
theorem of_get : ∀ {as : List α} {bs : List β}, as.length = bs.length → (∀ (i : Nat) a b, as[i]? = some a → bs[i]? = some b → R a b) → All2 R as bs
  | [], [], _, _ => .nil
  | [], _ :: _, h, _ => by simp at h
  | _ :: _, [], h, _ => by simp at h
  | a :: as, b :: bs, h, f => .cons (f 0 a b (by simp) (by simp)) (of_get (by simpa using h) fun i a b ha hb => f (i + 1) a b (by simpa using ha) (by simpa using hb))
theorem map_left {f : γ → α} {cs : List γ} {bs : List β} (h : All2 (fun c b => R (f c) b) cs bs) : All2 R (cs.map f) bs := by
  induction h with
  | nil => exact .nil
  | cons x _ ih => exact .cons x ih
theorem map_left_inv {f : γ → α} : ∀ {cs : List γ} {bs : List β}, All2 R (cs.map f) bs → All2 (fun c b => R (f c) b) cs bs
  | [], _, h => by cases h; exact .nil
  | c :: cs, _, h => by cases h with | cons x y => exact .cons x (map_left_inv y)
theorem map_right {f : γ → β} {as : List α} {cs : List γ} (h : All2 (fun a c => R a (f c)) as cs) : All2 R as (cs.map f) := by
  induction h with
  | nil => exact .nil
  | cons x _ ih => exact .cons x ih
theorem comp {T : β → γ → Prop} {as : List α} {bs : List β} {cs : List γ} (h : All2 R as bs) (k : All2 T bs cs) : All2 (fun a c => ∃ b, R a b ∧ T b c) as cs := by
  induction h generalizing cs with
  | nil => cases k; exact .nil
  | cons x _ ih => cases k with | cons y z => exact .cons ⟨_, x, y⟩ (ih z)
theorem mem_left {as : List α} {bs : List β} (h : All2 R as bs) {a : α} (ha : a ∈ as) : ∃ b ∈ bs, R a b := by
  induction h with
  | nil => cases ha
  | cons x _ ih =>
    rcases List.mem_cons.mp ha with rfl | ha
    · exact ⟨_, .head _, x⟩
    · obtain ⟨b, hb, r⟩ := ih ha; exact ⟨b, .tail _ hb, r⟩
theorem append_inv {as as' : List α} : ∀ {bs : List β}, All2 R (as ++ as') bs → ∃ cs ds, bs = cs ++ ds ∧ All2 R as cs ∧ All2 R as' ds := by
  induction as with
  | nil => intro bs h; exact ⟨[], bs, rfl, .nil, h⟩
  | cons a as ih =>
    intro bs h
    cases h with
    | cons x y => obtain ⟨cs, ds, rfl, h1, h2⟩ := ih y; exact ⟨_ :: cs, ds, rfl, .cons x h1, h2⟩
end All2

/-! ### trees -/
inductive Tree where
  | node (kids : List Tree)

mutual
def TreeAt (h : Heap) (ok : Addr → Prop) : Tree → Value → Prop
  | .node ks, v => ∃ a vs, v = .ref a ∧ ok a ∧ h.IsList a (List.toArray vs) ∧ TreesAt h ok ks vs
def TreesAt (h : Heap) (ok : Addr → Prop) : List Tree → List Value → Prop
  | [], vs => vs = []
  | k :: ks, vs => ∃ v vs', vs = v :: vs' ∧ TreeAt h ok k v ∧ TreesAt h ok ks vs'
end
theorem treesAt_iff {h : Heap} {ok : Addr → Prop} : ∀ {ks : List Tree} {vs : List Value}, TreesAt h ok ks vs ↔ All2 (TreeAt h ok) ks vs
  | [], vs => by
    constructor
    · intro e; unfold TreesAt at e; subst e; exact .nil
    · intro e; cases e; unfold TreesAt; rfl
  | k :: ks, vs => by
    constructor
    · intro e
      unfold TreesAt at e
      obtain ⟨v, vs', rfl, h1, h2⟩ := e
      exact .cons h1 (treesAt_iff.mp h2)
    · intro e
      cases e with
      | cons x y => unfold TreesAt; exact ⟨_, _, rfl, x, treesAt_iff.mpr y⟩
theorem treeAt_iff {h : Heap} {ok : Addr → Prop} {ks : List Tree} {v : Value} :
    TreeAt h ok (.node ks) v ↔ ∃ a vs, v = .ref a ∧ ok a ∧ h.IsList a (List.toArray vs) ∧ All2 (TreeAt h ok) ks vs := by
  rw [TreeAt]
  constructor
  · rintro ⟨a, vs, e, o, l, t⟩; exact ⟨a, vs, e, o, l, treesAt_iff.mp t⟩
  · rintro ⟨a, vs, e, o, l, t⟩; exact ⟨a, vs, e, o, l, treesAt_iff.mpr t⟩

theorem treeInd {P : Tree → Prop} (step : ∀ ks, (∀ k ∈ ks, P k) → P (.node ks)) : ∀ t, P t := fun t =>
  Tree.rec (motive_1 := P) (motive_2 := fun ks => ∀ k ∈ ks, P k) (fun ks ih => step ks ih) (fun k hk => nomatch hk)
    (fun k ks ihk ihks k' hk => by
      rcases List.mem_cons.mp hk with e | hk
      · rw [e]; exact ihk
      · exact ihks k' hk) t

theorem TreeAt.mono {h h' : Heap} {ok ok' : Addr → Prop} (f : ∀ a xs, ok a → h.IsList a xs → ok' a ∧ h'.IsList a xs) : ∀ t v, TreeAt h ok t v → TreeAt h' ok' t v :=
  treeInd fun ks ih v ht => by
    obtain ⟨a, vs, rfl, o, l, t⟩ := treeAt_iff.mp ht
    obtain ⟨o', l'⟩ := f a _ o l
    exact treeAt_iff.mpr ⟨a, vs, rfl, o', l', t.imp_mem fun k v hk _ => ih k hk v⟩
abbrev Any : Addr → Prop := fun _ => True
theorem TreeAt.lk {h h' : Heap} {ok : Addr → Prop} {t : Tree} {v : Value} (x : TreeAt h ok t v) (k : LK h h') : TreeAt h' ok t v := TreeAt.mono (fun a xs o l => ⟨o, k a xs l⟩) t v x
theorem TreeAt.any {h : Heap} {ok : Addr → Prop} {t : Tree} {v : Value} (x : TreeAt h ok t v) : TreeAt h Any t v := TreeAt.mono (fun a xs o l => ⟨trivial, l⟩) t v x
theorem TreeAt.ref {h : Heap} {ok : Addr → Prop} {t : Tree} {v : Value} (x : TreeAt h ok t v) : ∃ a, v = .ref a := by
  cases t with
  | node ks => obtain ⟨a, vs, e, _⟩ := treeAt_iff.mp x; exact ⟨a, e⟩

/-- the places that stood free in `g` -/
abbrev Free (g : Heap) : Addr → Prop := fun a => g.get? a = none

end Mine

namespace Mine

structure Cx (w : World) (A : Around) (h : Heap) : Prop where
  X : (KP w).In h
  T : ∃ p loose mg mb, TopRead p loose mg mb h
  B : ∃ base outer, Below A base outer h

theorem Cx.keeps {w : World} {A : Around} {h h' : Heap} (C : Cx w A h) (k : h.StaysIn h') : Cx w A h' where
  X := C.X.keeps k
  T := let ⟨p, l, mg, mb, t⟩ := C.T; ⟨p, l, mg, mb, t.keeps k⟩
  B := let ⟨base, outer, b⟩ := C.B; ⟨base, outer, b.stack, stays_trans b.stays k, b.frames.of_keeps fun b o e _ => ⟨o, k b o e, rfl⟩⟩
theorem Cx.push {w : World} {A : Around} {h₀ h : Heap} {L a : Addr} {m : Str → Option Value} {name : Str} {scope : Scope} {cd : Value} (C : Cx w A h₀) (F : Fr h₀ L h m)
    (hk : scope.kind = .function := by rfl) : Cx w (A.deeper (envOf name scope L a cd)) h where
  X := C.X.keeps F.keep
  T := let ⟨p, l, mg, mb, t⟩ := C.T; ⟨p, l, mg, mb, t.keeps F.keep⟩
  B := let ⟨base, outer, b⟩ := C.B; ⟨base, _, b.push F hk⟩
theorem Cx.nolimit {w : World} {A : Around} {h : Heap} (C : Cx w A h) : h.NoLimit := let ⟨_, _, _, _, t⟩ := C.T; t.nolimit

section
variable {w : World} {A : Around} {E : Value → Shared → Prop} {s r : Shared} {h : Heap} {tk : Nat} {env : Env}

theorem noE {α : Type} {M : Model} {t : Sem α} {Q : α → Shared → Prop} (h : wpAny M A t Q NoE s) : wpAny M A t Q E s :=
  wpAny_mono h (fun _ _ x => x) fun _ _ x => x.elim

theorem nmL {M : Model} {x : Str} {pos : Pos} {v : Value} {m : Str → Option Value} {Q : Value → Shared → Prop} (hn : s.heap.Ns env.locals m) (hv : m x = some v) (h : Q v s)
    (hk : env.scope.kind = .function := by rfl) (hl : env.kindOf x = some .local := by rfl) (hd : (x == ("__debug__" : Str)) = false := by decide) :
    wpAny M A (eval (.Name x pos) env) Q E s := wpAny_Name (wpAny_loadName_local hk hl hn hv h) hd
theorem nmG {A' : Around} {x : Str} {pos : Pos} {v : Value} {Q : Value → Shared → Prop} (C : Cx w A' s.heap) (e : nsIn (KP w) mainGlobals x = some (some v)) (h : Q v s)
    (hg : env.globals = mainGlobals := by rfl) (hk : env.scope.kind = .function := by rfl) (hx : env.kindOf x = some .globalImplicit := by rfl) (hd : (x == ("__debug__" : Str)) = false := by decide) :
    wpAny (model PG w) A (eval (.Name x pos) env) Q E s := by
  obtain ⟨p, l, mg, mb, T⟩ := C.T
  exact Name_function_global hk hx (loadGlobal_global (env := env) (by rw [hg]; exact T.g) (mg_of C.X T.g e) h) hd
theorem nmB {A' : Around} {x : Str} {pos : Pos} {v : Value} {Q : Value → Shared → Prop} (C : Cx w A' s.heap) (e : nsIn (KP w) mainGlobals x = some none) (hv : bootBuiltins x = some v) (hn : x ≠ "__name__") (h : Q v s)
    (hg : env.globals = mainGlobals := by rfl) (hb : env.builtins = builtinsNs := by rfl) (hk : env.scope.kind = .function := by rfl) (hx : env.kindOf x = some .globalImplicit := by rfl) (hd : (x == ("__debug__" : Str)) = false := by decide) :
    wpAny (model PG w) A (eval (.Name x pos) env) Q E s := by
  obtain ⟨p, l, mg, mb, T⟩ := C.T
  exact Name_function_global hk hx (loadGlobal_builtin (env := env) (by rw [hg]; exact T.g) (mg_none_of C.X T.g e) (by rw [hb]; exact T.b) ((T.builtins x hn).trans hv) h) hd

/-- a store of a name: the frame's own place turns, no other -/
theorem stS {M : Model} {x : Str} {v : Value} {m : Str → Option Value} {Q : Unit → Shared → Prop} (hn : h.Ns env.locals m)
    (hQ : ∀ h', h'.Ns env.locals (fun y => if y = x then some v else m y) → Heap.SameBut env.locals h h' → Q () (S r h' (tk + 1)))
    (hl : env.kindOf x = some .local := by rfl) (hp : (env.scope.kind == .class || (env.scope.kind == .module && env.locals != env.globals)) = false := by rfl) :
    wpAny M A (storeName env x v) Q E (S r h tk) := wpAny_storeName_local (s := S r h tk) hl hn hQ hp

theorem call1 {A' : Around} {f : Str} {a : Addr} {p1 pos : Pos} {arg : Expr} {Q : Value → Shared → Prop} (C : Cx w A' s.heap) (e : nsIn (KP w) mainGlobals f = some (some (.ref a))) (hk : keepIn (KP w) (.ref a) = true)
    (h : wpAny (model PG w) A (eval arg env) (fun v s₁ => (KP w).In s₁.heap ∧ wpAny (model PG w) A (call (.ref a) [v]) Q E s₁) E s)
    (hs : starEach [arg] env = [(false, eval arg env)] := by rfl)
    (hc : eval (.Call (.Name f p1) [arg] [] pos) env = (do let fv ← eval (.Name f p1) env; callWith pos fv [] (backTo pos (starEach [arg] env)) (backToKw pos (keywordEach [] env))) := by rfl)
    (hg : env.globals = mainGlobals := by rfl) (hkd : env.scope.kind = .function := by rfl) (hx : env.kindOf f = some .globalImplicit := by rfl) (hd : (f == ("__debug__" : Str)) = false := by decide) :
    wpAny (model PG w) A (eval (.Call (.Name f p1) [arg] [] pos) env) Q E s := by
  refine Call_ (nmG C e ?_ hg hkd hx hd) hc
  refine callWith_K C.X hk ?_ (by rw [hs]; rfl) (by rfl)
  refine spliced_more ?_ (by rw [hs]; rfl)
  exact wpAny_mono h (fun v s₁ hv => wpAny_pure hv) fun _ _ x => x
theorem call2 {A' : Around} {f : Str} {a : Addr} {p1 pos : Pos} {arg arg2 : Expr} {Q : Value → Shared → Prop} (C : Cx w A' s.heap) (e : nsIn (KP w) mainGlobals f = some (some (.ref a))) (hk : keepIn (KP w) (.ref a) = true)
    (h : wpAny (model PG w) A (eval arg env) (fun v s₁ => wpAny (model PG w) A (eval arg2 env) (fun v2 s₂ => (KP w).In s₂.heap ∧ wpAny (model PG w) A (call (.ref a) [v, v2]) Q E s₂) E s₁) E s)
    (hs : starEach [arg, arg2] env = [(false, eval arg env), (false, eval arg2 env)] := by rfl) (hs2 : starEach [arg2] env = [(false, eval arg2 env)] := by rfl)
    (hc : eval (.Call (.Name f p1) [arg, arg2] [] pos) env = (do let fv ← eval (.Name f p1) env; callWith pos fv [] (backTo pos (starEach [arg, arg2] env)) (backToKw pos (keywordEach [] env))) := by rfl)
    (hg : env.globals = mainGlobals := by rfl) (hkd : env.scope.kind = .function := by rfl) (hx : env.kindOf f = some .globalImplicit := by rfl) (hd : (f == ("__debug__" : Str)) = false := by decide) :
    wpAny (model PG w) A (eval (.Call (.Name f p1) [arg, arg2] [] pos) env) Q E s := by
  refine Call_ (nmG C e ?_ hg hkd hx hd) hc
  refine callWith_K C.X hk ?_ (by rw [hs, hs2]) (by rw [hs2]; rfl)
  refine spliced_more ?_ (by rw [hs, hs2])
  refine wpAny_mono h (fun v s₁ hv => spliced_more ?_ (by rw [hs2]; rfl)) fun _ _ x => x
  exact wpAny_mono hv (fun v s₁ hv => wpAny_pure hv) fun _ _ x => x

theorem enter {Q : Value → Shared → Prop} {name qual : Str} {params : Arguments} {body : List Stmt} {scope : Scope} {dV kV doc pm cdv ct oc : Value} {an od : Option Addr} {osl : Array (Option Value)} {f : Addr}
    {args : List Value} {kw : List (Str × Value)} {binds : List (Str × Value)}
    (C : Cx w A h) (hroom : A.depth < recursionLimit) (ho : (KP w).lookup f = some ⟨oc, od, .func (fnOf name qual params body scope dV kV doc pm an cdv ct), osl⟩) (hcd : codeIn (KP w) cdv qual = true)
    (hbind : BindsTo (S r h tk) (fnOf name qual params body scope dV kV doc pm an cdv ct) ⟨args, kw⟩ binds) (hloc : (binds.all fun x => decide (scope.names.lookup x.1 = some .local)) = true)
    (hQ : ∀ L h₁ tk₁, Fr h L h₁ (fun y => binds.reverse.lookup y) → (∀ h' m', Fr h L h' m' → Cx w (A.deeper (envOf qual scope L f cdv)) h') →
      wpAny (model PG w) (A.deeper (envOf qual scope L f cdv)) (execs body (envOf qual scope L f cdv)) (fun fl s' => Q (match fl with | .ret v => v | _ => .none) s') NoE (S r h₁ tk₁))
    (hco : scope.isCoroutine = false := by rfl) (hgen : scope.isGenerator = false := by rfl) (hk : scope.kind = .function := by rfl)
    (hcell : ∀ x ∈ scope.names, x.2 ≠ .cell := by decide) : wpAny (model PG w) A (call (.ref f) args kw) Q E (S r h tk) := by
  refine wpAny_call (codeAny_call_def (s := S r h tk) (fd := fnOf name qual params body scope dV kV doc pm an cdv ct) (body := body) (binds := binds) hroom (C.X _ _ ho) rfl C.nolimit (codeRec_of C.X hcd) rfl hbind hcell (locs hloc) (fun h₁ hns hk₁ => ?_) hco hgen hk)
  exact wpAny_mono (hQ _ h₁ _ ⟨hns, hk₁, Nat.le_refl _⟩ fun _ _ F => C.push F hk) (fun fl s' hl => hl) fun _ _ x => x.elim

/-- what a call of `f` is: it ends, it changes nothing that stood -/
def Spec (w : World) (n : Nat) (f : Addr) (args : List Value) (kw : List (Str × Value)) (h : Heap) (Out : Heap → Value → Prop) : Prop :=
  ∀ (A : Around) (r : Shared) (tk : Nat) (Q : Value → Shared → Prop) (E : Value → Shared → Prop), Cx w A h → A.handled = none → A.depth + n < 600 → A.units + 8 * n < 9000 →
    (∀ v h' tk', h.StaysIn h' → Out h' v → Q v (S r h' tk')) → wpAny (model PG w) A (call (.ref f) args kw) Q E (S r h tk)

/-! ### what a loop goes over -/
def Iters (w : World) (A : Around) (W : Addr → Prop) (g : Heap) (it : Value) (g₂ : Heap) (n : Nat) (P : Nat → Value → Prop) : Prop :=
  ∃ I fp wr St, it = .ref I ∧ Walks PG w A I fp wr n P St ∧ St 0 g₂ ∧ g.StaysIn g₂ ∧ (∀ b ∈ fp, ¬ W b ∧ b < g₂.objs.size) ∧ (∀ b ∈ wr, g.get? b = none) ∧ (∀ i h, St i h → ∀ b ∈ wr, ∀ xs, ¬ h.IsList b xs)

theorem iters_list (W : Addr → Prop) {l : Addr} {vs : List Value} {Q : Value → Shared → Prop} (hh : A.handled = none) (hl : h.IsList l vs.toArray) (hW : ¬ W l) (hlt : ∀ b, W b → b < h.objs.size)
    (hQ : ∀ it g₂, Iters w A W h it g₂ vs.length (fun i v => vs[i]? = some v) → Q it (S r g₂ tk)) : wpAny (model PG w) A (pyIter (.ref l)) Q E (S r h tk) := by
  have hll := isList_lt hl
  refine wpAny_pyIter_list (s := S r h tk) hl (hQ _ _ ?_)
  have Wk := Walks.list (prog := PG) (w := w) hh h.objs.size l (Nat.ne_of_lt hll) vs.toArray
  have Wk' : Walks PG w A h.objs.size [h.objs.size, l] [h.objs.size] vs.length (fun i v => vs[i]? = some v) fun i q => q.IsListIter h.objs.size l i ∧ q.IsList l vs.toArray := by simpa using Wk
  refine ⟨h.objs.size, _, _, _, rfl, Wk', ⟨⟨_, Heap.get?_push_size _ rfl, rfl, rfl⟩, LK.of_stays (stays_push _ _) _ _ hl⟩, stays_push _ _, ?_, ?_, ?_⟩
  · intro b hb
    rw [Heap.size_push]
    rcases List.mem_cons.mp hb with e | hb
    · exact ⟨fun q => Nat.lt_irrefl _ (e ▸ hlt b q), by rw [e]; exact Nat.lt_succ_self _⟩
    · rw [List.mem_singleton.mp hb]; exact ⟨hW, Nat.lt_succ_of_lt hll⟩
  · intro b hb
    rw [List.mem_singleton.mp hb]
    exact get?_ge (Nat.le_refl _)
  · intro i h' st b hb xs x
    rw [List.mem_singleton.mp hb] at x
    obtain ⟨o, ho, hc, _⟩ := x
    obtain ⟨o', ho', hc', _⟩ := st.1
    rw [ho] at ho'; cases ho'; rw [hc] at hc'; exact absurd hc' (by simp)

theorem upd_self {x : Str} {v : Value} {m : Str → Option Value} : (fun y => if y = x then some v else m y) x = some v := by simp

theorem For_walk {hz : Heap} {tz : Nat} {x : Str} {px pos : Pos} {iter : Expr} {body : List Stmt} {Q : Flow → Shared → Prop} (W : Addr → Prop) (J : Nat → Heap → (Str → Option Value) → Prop)
    (hJ : ∀ i h h' m m', J i h m → LK h h' → PK h h' → (∀ y, y ≠ x → m' y = m y) → J i h' m')
    (h : wpAny (model PG w) A (eval iter env) (fun xv s₁ => wpAny (model PG w) A (pyIter xv) (fun it s₂ => ∃ n P m g₁ g₂ tk₂, s₂ = S r g₂ tk₂ ∧ Iters w A W g₁ it g₂ n P ∧ W env.locals ∧ g₁.Ns env.locals m ∧ J 0 g₁ m ∧
      (∀ i v h₂ m₂ tk, i < n → P i v → Kp W g₁ h₂ → h₂.Ns env.locals m₂ → m₂ x = some v → J i h₂ m₂ →
        wpAny (model PG w) A (execs body env) (fun fl s₃ => (fl = .next ∨ fl = .cont) ∧ ∃ h₃ tk₃ m₃, s₃ = S r h₃ tk₃ ∧ Kp W h₂ h₃ ∧ h₃.Ns env.locals m₃ ∧ J (i + 1) h₃ m₃) NoE (S r h₂ tk)) ∧
      (∀ h' tk m', Kp W g₁ h' → h'.Ns env.locals m' → J n h' m' → Q .next (S r h' tk))) E s₁) E (S r hz tz))
    (hl : env.kindOf x = some .local := by rfl) (hp : (env.scope.kind == .class || (env.scope.kind == .module && env.locals != env.globals)) = false := by rfl)
    (hs : ∀ x, foldedSetIterable iter env x = pure x := by intro _; rfl) :
    wpAny (model PG w) A (exec (.For (.Name x px) iter body [] pos) env) Q E (S r hz tz) := by
  refine wpAny_For (wpAny_mono h (fun xv s₁ h₁ => wpAny_mono h₁ (fun it s₂ h₂ => ?_) fun _ _ e => e) fun _ _ e => e) hs
  obtain ⟨n, P, m, g₁, g₂, tk₂, rfl, ⟨I, fp, wr, St, rfl, Wk, hst, hk, hfp, hwr, hnl⟩, hWL, hn, h0, turn, done⟩ := h₂
  have hLf : env.locals ∉ fp := fun q => (hfp _ q).1 hWL
  have hLw : env.locals ∉ wr := fun q => hLf (Wk.sub _ q)
  have lkw : ∀ i h h', St i h → (∀ b o, b ∉ wr → h.get? b = some o → h'.get? b = some o) → LK h h' := fun i h h' st k a xs x => by
    obtain ⟨o, ho, r⟩ := id x
    exact ⟨o, k a o (fun q => hnl i h st a q xs x) ho, r⟩
  have pkw : ∀ i h h', St i h → (∀ b o, b ∉ wr → h.get? b = some o → h'.get? b = some o) → PK h h' := fun i h h' st k a xs x => x.at fun o e => k a o (fun q => hnl i h st a q xs x.isList) e
  have kpw : ∀ h h', Kp W g₁ h → (∀ b o, b ∉ wr → h.get? b = some o → h'.get? b = some o) → Kp W g₁ h' := fun h h' k k' b o nb e =>
    k' b o (fun q => by rw [hwr b q] at e; cases e) (k b o nb e)
  refine codeAny_forLoop (fun k s' => ∃ h' tk m' i, s' = S r h' tk ∧ St i h' ∧ Kp W g₁ h' ∧ h'.Ns env.locals m' ∧ J i h' m' ∧ i ≤ n ∧ k = n + 1 - i) ?_ (n + 1)
    ⟨g₂, tk₂, m, 0, rfl, hst, Kp.of_stays hk, hn.keeps hk, hJ _ _ _ _ _ h0 (LK.of_stays hk) (PK.of_stays hk) fun _ _ => rfl, Nat.zero_le _, rfl⟩
  rintro k s' ⟨h', tk, m', i, rfl, hst', hkp, hns, hj, hi, rfl⟩
  by_cases hlt : i < n
  · refine Wk.item i _ _ _ hlt hst' fun v h₁ tk₁ hPv hst₁ hk₁ => ?_
    have hns₁ : h₁.Ns env.locals m' := hns.at' fun o e => hk₁ _ o hLw e
    refine wpAny_assign_Name (wpAny_storeName_local hl hns₁ (fun h₂ hn₂ hs₂ => ?_) hp)
    have hst₂ : St (i + 1) h₂ := Wk.frame _ _ _ hst₁ fun b hb o e => hs₂.extBut b o (fun q => hLf (q ▸ hb)) e
    have lk₂ : LK h' h₂ := (lkw _ _ _ hst' hk₁).trans (LK.of_same (fun xs => not_list_of_ns hns₁) hs₂)
    have pk₂ : PK h' h₂ := (pkw _ _ _ hst' hk₁).trans (PK.of_same (fun xs => not_list_of_ns hns₁) hs₂)
    have kp₂ : Kp W g₁ h₂ := (kpw _ _ hkp hk₁).trans (Kp.of_same hWL hs₂)
    have j₂ : J i h₂ (fun y => if y = x then some v else m' y) := hJ _ _ _ _ _ hj lk₂ pk₂ fun y hy => by simp [hy]
    refine wpAny_mono (noE (turn i v h₂ _ _ hlt hPv kp₂ hn₂ upd_self j₂)) (fun fl s₃ h₃ => ?_) fun _ _ e => e
    obtain ⟨hf, h₃, tk₃, m₃, rfl, kp₃, hn₃, j₃⟩ := h₃
    have fin : ∃ mm, mm < n + 1 - i ∧ ∃ h' tk m' i, S r h₃ tk₃ = S r h' tk ∧ St i h' ∧ Kp W g₁ h' ∧ h'.Ns env.locals m' ∧ J i h' m' ∧ i ≤ n ∧ mm = n + 1 - i :=
      ⟨n + 1 - (i + 1), by omega, h₃, tk₃, m₃, i + 1, rfl, Wk.frame _ _ _ hst₂ fun b hb o e => kp₃ b o (hfp b hb).1 e, kp₂.trans kp₃, hn₃, j₃, hlt, rfl⟩
    rcases hf with rfl | rfl <;> exact fin
  · have hin : i = n := by omega
    subst hin
    refine Wk.done _ _ _ hst' fun h₁ tk₁ hk₁ => wpAny_execs_nil ?_
    exact done h₁ tk₁ m' (kpw _ _ hkp hk₁) (hns.at' fun o e => hk₁ _ o hLw e) (hJ _ _ _ _ _ hj (lkw _ _ _ hst' hk₁) (pkw _ _ _ hst' hk₁) fun _ _ => rfl)
end
end Mine

namespace Mine

/-- a relation that hangs on lists alone, at places that are `ok` -/
def Soft (R : (Addr → Prop) → Heap → Value → Value → Prop) : Prop :=
  ∀ ok ok' h h' v y, (∀ a xs, ok a → h.IsList a xs → ok' a ∧ h'.IsList a xs) → R ok h v y → R ok' h' v y
abbrev FreeBut (g : Heap) (D : Addr) : Addr → Prop := fun a => g.get? a = none ∧ a ≠ D

section
variable {w : World} {A : Around} {E : Value → Shared → Prop} {s r : Shared} {env : Env}

abbrev testsOf (ifs : List Expr) (env : Env) : Sem Bool := forIn ifs true fun c r => if r = true then do let ok ← PySem.isTrue c env (eval c env); pure (ForInStep.yield ok) else pure (ForInStep.yield r)

theorem filter_snoc {p : Value → Bool} {vs : List Value} {v : Value} : (vs ++ [v]).filter p = if p v then vs.filter p ++ [v] else vs.filter p := by
  rw [List.filter_append]; cases h : p v <;> simp [h]

theorem comp_loop {elt iter : Expr} {x : Str} {px : Pos} {ifs : List Expr} {scope : Scope} {pos : Pos} {I D : Addr} {fp wr : List Addr} {n : Nat} {P : Nat → Value → Prop} {St : Nat → Heap → Prop}
    {cenv : Env} {m : Str → Option Value} {g h0 : Heap} {tk0 : Nat} {Rr : Result → Shared → Prop} (Wk : Walks PG w A I fp wr n P St) (p : Value → Bool) (R : (Addr → Prop) → Heap → Value → Value → Prop) (hR : Soft R)
    (hx : cenv.kindOf x = some .local) (hp : (cenv.scope.kind == .class || (cenv.scope.kind == .module && cenv.locals != cenv.globals)) = false)
    (hDC : D ≠ cenv.locals) (hDf : D ∉ fp) (hCf : cenv.locals ∉ fp) (hgD : g.get? D = none) (hgC : g.get? cenv.locals = none) (hwr : ∀ b ∈ wr, g.get? b = none)
    (hnl : ∀ i h, St i h → ∀ b ∈ wr, ∀ xs, ¬ h.IsList b xs)
    (hst : St 0 h0) (hacc : h0.IsList D #[]) (hn : h0.Ns cenv.locals m) (hk : g.StaysIn h0) (hsz : n ≤ sizeLine)
    (htests : ∀ i v h₂ m₂ tk, P i v → g.StaysIn h₂ → h₂.Ns cenv.locals m₂ → m₂ x = some v →
      wpAny (model PG w) A (testsOf ifs cenv) (fun ok s₃ => ok = p v ∧ ∃ h₃ tk₃, s₃ = S r h₃ tk₃ ∧ h₂.StaysIn h₃) NoE (S r h₂ tk))
    (helt : ∀ i v h₂ m₂ tk, P i v → p v = true → g.StaysIn h₂ → h₂.Ns cenv.locals m₂ → m₂ x = some v →
      wpAny (model PG w) A (eval elt cenv) (fun y s₃ => ∃ h₃ tk₃, s₃ = S r h₃ tk₃ ∧ h₂.StaysIn h₃ ∧ R (Free h₂) h₃ v y) NoE (S r h₂ tk))
    (hQ : ∀ h' tk m' ys (vs : List Value), g.StaysIn h' → h'.Ns cenv.locals m' → h'.IsList D (List.toArray ys) → vs.length = n → (∀ j v, vs[j]? = some v → P j v) → All2 (R (FreeBut g D) h') (vs.filter p) ys →
      Rr (.ok .next) (S r h' tk)) :
    codeAny (model PG w) A (.compLoop (.ListComp elt [⟨.Name x px, iter, ifs, 0⟩] scope pos) 0 (.ref I) (.ref D) cenv) Rr (S r h0 tk0) := by
  refine codeAny_compLoop_tests
    (fun k s' => ∃ h' tk m' ys, ∃ vs : List Value, s' = (S r h' tk) ∧ St vs.length h' ∧ h'.IsList D (List.toArray ys) ∧ h'.Ns cenv.locals m' ∧ (∀ j v, vs[j]? = some v → P j v) ∧
      All2 (R (FreeBut g D) h') (vs.filter p) ys ∧ vs.length ≤ n ∧ k = n + 1 - vs.length ∧ g.StaysIn h') ?_ (n + 1)
    ⟨h0, tk0, m, [], [], rfl, hst, hacc, hn, by simp, .nil, Nat.zero_le _, rfl, hk⟩
  rintro k s' ⟨H, tk, m', ys, vs, rfl, hst', hacc', hn', hP, hF, hi, rfl, hk'⟩
  have hCw : cenv.locals ∉ wr := fun h => hCf (Wk.sub _ h)
  have hDw : D ∉ wr := fun h => hDf (Wk.sub _ h)
  have lkw : ∀ i h h', St i h → (∀ b o, b ∉ wr → h.get? b = some o → h'.get? b = some o) → LK h h' := fun i h h' st k a xs x => by
    obtain ⟨o, ho, r⟩ := id x
    exact ⟨o, k a o (fun q => hnl i h st a q xs x) ho, r⟩
  have stw : ∀ h h', g.StaysIn h → (∀ b o, b ∉ wr → h.get? b = some o → h'.get? b = some o) → g.StaysIn h' := fun h h' k k' b o e =>
    k' b o (fun q => by rw [hwr b q] at e; cases e) (k b o e)
  have soft : ∀ {h h' : Heap} {a b}, LK h h' → All2 (R (FreeBut g D) h) a b → All2 (R (FreeBut g D) h') a b := fun lk q => q.imp fun _ _ r => hR _ _ _ _ _ _ (fun a xs ok l => ⟨ok, lk a xs l⟩) r
  by_cases hlt : vs.length < n
  · refine Wk.item vs.length _ _ _ hlt hst' fun v h₁ tk₁ hPv hst₁ hk₁ => ?_
    have hns₁ : h₁.Ns cenv.locals m' := hn'.at' fun o e => hk₁ _ o hCw e
    refine wpAny_assign_Name (wpAny_storeName_local hx hns₁ (fun h₂ hn₂ hs₂ => ?_) hp)
    have hst₂ : St (vs.length + 1) h₂ := Wk.frame _ _ _ hst₁ fun b hb o e => hs₂.extBut b o (fun h => hCf (h ▸ hb)) e
    have lk₂ : LK H h₂ := (lkw _ _ _ hst' hk₁).trans (LK.of_same (fun xs => not_list_of_ns hns₁) hs₂)
    have k₂ : g.StaysIn h₂ := fun b o e => hs₂.extBut b o (fun q => by rw [q, hgC] at e; cases e) (stw _ _ hk' hk₁ b o e)
    refine wpAny_mono (noE (htests vs.length v h₂ _ _ hPv k₂ hn₂ upd_self)) (fun ok s₃ h₃ => ?_) fun _ _ e => e
    obtain ⟨rfl, h₃, tk₃, rfl, hk₃⟩ := h₃
    have hst₃ : St (vs.length + 1) h₃ := Wk.frame _ _ _ hst₂ fun b _ o e => hk₃ b o e
    have hn₃ := hn₂.keeps hk₃
    have hP' : ∀ j u, (vs ++ [v])[j]? = some u → P j u := fun j u hj => by
      rcases Nat.lt_trichotomy j vs.length with h | h | h
      · exact hP j u (by rwa [List.getElem?_append_left h] at hj)
      · subst h; simp at hj; subst hj; exact hPv
      · have hnone : (vs ++ [v])[j]? = none := List.getElem?_eq_none (by rw [List.length_append, List.length_singleton]; omega)
        rw [hnone] at hj; cases hj
    cases hpv : p v with
    | false =>
      simp only [Bool.false_eq_true, if_false]
      refine ⟨n + 1 - (vs.length + 1), by omega, h₃, tk₃, _, ys, vs ++ [v], rfl, by simpa using hst₃, (lk₂.trans (LK.of_stays hk₃)) _ _ hacc', hn₃, hP', ?_, (by rw [List.length_append, List.length_singleton]; exact hlt),
        (by rw [List.length_append, List.length_singleton]), stays_trans k₂ hk₃⟩
      rw [filter_snoc, hpv]
      exact soft (lk₂.trans (LK.of_stays hk₃)) hF
    | true =>
      simp only [if_true]
      refine wpAny_mono (noE (helt vs.length v h₃ _ _ hPv hpv (stays_trans k₂ hk₃) hn₃ upd_self)) (fun y s₄ h₄ => ?_) fun _ _ e => e
      obtain ⟨h₄, tk₄, rfl, hk₄, hr₄⟩ := h₄
      have hys : ys.length ≤ sizeLine := by
        have e1 := hF.length
        have e2 : (vs.filter p).length ≤ vs.length := List.length_filter_le _ _
        omega
      have hD₃ : h₃.IsList D (List.toArray ys) := (lk₂.trans (LK.of_stays hk₃)) _ _ hacc'
      have hD₄ : h₄.IsList D (List.toArray ys) := LK.of_stays hk₄ _ _ hD₃
      refine wpAny_list_append (hsz := by rw [List.size_toArray]; exact hys) hD₄ fun h₅ hl₅ hs₅ => ?_
      have k₄ : g.StaysIn h₄ := stays_trans (stays_trans k₂ hk₃) hk₄
      have k₅ : g.StaysIn h₅ := fun b o e => hs₅.extBut b o (fun q => by rw [q, hgD] at e; cases e) (k₄ b o e)
      have soft5 : ∀ {v y}, R (FreeBut g D) h₄ v y → R (FreeBut g D) h₅ v y := fun q => hR _ _ _ _ _ _ (fun a xs ok l => ⟨ok, l.extBut hs₅.extBut ok.2⟩) q
      refine ⟨n + 1 - (vs.length + 1), by omega, h₅, tk₄, _, ys ++ [y], vs ++ [v], rfl, ?_, ?_, (hn₃.keeps hk₄).sameBut hs₅ (Ne.symm hDC), hP', ?_, (by rw [List.length_append, List.length_singleton]; exact hlt),
        (by rw [List.length_append, List.length_singleton]), k₅⟩
      · have := Wk.frame _ _ h₅ hst₃ fun b hb o e => hs₅.extBut b o (fun h => hDf (h ▸ hb)) (hk₄ b o e)
        simpa using this
      · simpa using hl₅
      · rw [filter_snoc, hpv]
        have f4 : All2 (R (FreeBut g D) h₄) (vs.filter p) ys := soft ((lk₂.trans (LK.of_stays hk₃)).trans (LK.of_stays hk₄)) hF
        refine (f4.imp fun _ _ => soft5).snoc (soft5 ?_)
        refine hR _ _ _ _ _ _ (fun a xs ok l => ⟨⟨?_, ?_⟩, l⟩) hr₄
        · have ok' : h₃.get? a = none := ok
          cases e : g.get? a with
          | none => rfl
          | some o => rw [hk₃ _ _ (k₂ _ _ e)] at ok'; cases ok'
        · rintro rfl
          exact isList_some hD₃ ok
  · have hin : vs.length = n := by omega
    refine Wk.done _ _ _ (hin ▸ hst') fun h₁ tk₁ hk₁ => ?_
    exact hQ h₁ tk₁ m' ys vs (stw _ _ hk' hk₁) (hn'.at' fun o e => hk₁ _ o hCw e) (lkw _ _ _ hst' hk₁ _ _ hacc') hin hP (soft (lkw _ _ _ hst' hk₁) hF)

theorem comp_block {elt iter : Expr} {x : Str} {px : Pos} {ifs : List Expr} {scope : Scope} {pos : Pos} {it : Value} {n : Nat} {P : Nat → Value → Prop} {g g₂ : Heap} {tk0 : Nat} {V : Addr → Prop}
    (p : Value → Bool) (R : (Addr → Prop) → Heap → Value → Value → Prop) (hR : Soft R) {RR : Value → Env → Result → Shared → Prop}
    (hcell : ∀ y ∈ scope.names, y.2 ≠ .cell) (hkind : scope.kind = .function) (hx : scope.names.lookup x = some .local) (It : Iters w A V g it g₂ n P) (hsz : n ≤ sizeLine)
    (htests : ∀ C i v h₂ m₂ tk, P i v → g.StaysIn h₂ → h₂.Ns C m₂ → m₂ x = some v →
      wpAny (model PG w) A (testsOf ifs (compEnv scope C env)) (fun ok s₃ => ok = p v ∧ ∃ h₃ tk₃, s₃ = S r h₃ tk₃ ∧ h₂.StaysIn h₃) NoE (S r h₂ tk))
    (helt : ∀ C i v h₂ m₂ tk, P i v → p v = true → g.StaysIn h₂ → h₂.Ns C m₂ → m₂ x = some v →
      wpAny (model PG w) A (eval elt (compEnv scope C env)) (fun y s₃ => ∃ h₃ tk₃, s₃ = S r h₃ tk₃ ∧ h₂.StaysIn h₃ ∧ R (Free h₂) h₃ v y) NoE (S r h₂ tk))
    (hRR : ∀ D C h' tk m' ys (vs : List Value), g.get? D = none → g.get? C = none → D ≠ C → g.StaysIn h' → h'.Ns C m' → h'.IsList D (List.toArray ys) → vs.length = n → (∀ j v, vs[j]? = some v → P j v) → All2 (R (FreeBut g D) h') (vs.filter p) ys →
      RR (.ref D) (compEnv scope C env) (.ok .next) (S r h' tk)) :
    wpAny (model PG w) A (newList []) (fun acc s₃ => wpAny (model PG w) A (newFunctionEnv scope env.globals [] [] env.qual none .none (some env)) (fun cenv s₄ =>
      codeAny (model PG w) A (.compStart (.ListComp elt [⟨.Name x px, iter, ifs, 0⟩] scope pos) 0 it acc { cenv with scope := scope }) (RR acc { cenv with scope := scope }) s₄) E s₃) E (S r g₂ tk0) := by
  obtain ⟨I, fp, wr, St, rfl, Wk, hst, hk, hfp, hwr, hnl⟩ := It
  refine wpAny_newObj_type (wpAny_newFunctionEnv hcell (by intro y hy; simp at hy) (fun h₁ hns₁ hsb₁ => ?_) hkind)
  dsimp only at hns₁ hsb₁ ⊢
  generalize hH2 : g₂.push { cls := .type "list", dict := none, data := .seq ([] : List Value).toArray } = H2 at hns₁ hsb₁ ⊢
  have hC : H2.objs.size = g₂.objs.size + 1 := by rw [← hH2, Heap.size_push]
  have hDC : g₂.objs.size ≠ H2.objs.size := by rw [hC]; exact Nat.ne_of_lt (Nat.lt_succ_self _)
  have hDf : g₂.objs.size ∉ fp := fun hm => Nat.lt_irrefl _ (hfp _ hm).2
  have hCf : H2.objs.size ∉ fp := fun hm => by have := (hfp _ hm).2; rw [hC] at this; exact Nat.lt_irrefl _ (Nat.lt_of_succ_lt this)
  have old : g₂.StaysIn h₁ := fun b o e => hsb₁.extBut b o (by rw [hC]; exact Nat.ne_of_lt (Nat.lt_succ_of_lt (Heap.lt_size e))) (Heap.get?_push_of_some _ (hH2 ▸ Heap.get?_push_of_some _ e))
  have hacc : h₁.IsList g₂.objs.size #[] := ⟨_, hsb₁.extBut _ _ hDC (Heap.get?_push_of_some _ (hH2 ▸ Heap.get?_push_size _ rfl)), rfl, 0, rfl⟩
  have hst₁ : St 0 h₁ := Wk.frame _ _ _ hst fun b _ o e => old b o e
  have fresh : ∀ a, g₂.objs.size ≤ a → g.get? a = none := fun a ha => by
    cases e : g.get? a with
    | none => rfl
    | some o' => exact absurd (Heap.lt_size (hk _ _ e)) (Nat.not_lt.mpr ha)
  have hgD := fresh g₂.objs.size (Nat.le_refl _)
  have hgC := fresh H2.objs.size (by rw [hC]; exact Nat.le_succ _)
  have loop : ∀ s₃ : Shared, s₃ = S r h₁ (tk0 + ([] : List (Str × Value)).length) →
      codeAny (model PG w) A (.compLoop (.ListComp elt [⟨.Name x px, iter, ifs, 0⟩] scope pos) 0 (.ref I) (.ref g₂.objs.size) (compEnv scope H2.objs.size env))
        (RR (.ref g₂.objs.size) (compEnv scope H2.objs.size env)) s₃ := by
    rintro s₃ rfl
    exact comp_loop (cenv := compEnv scope H2.objs.size env) (g := g) Wk p R hR hx (by simp [compEnv, hkind]) hDC hDf hCf hgD hgC hwr hnl hst₁ hacc hns₁ (stays_trans hk old) hsz
      (fun i v h₂ m₂ tk hv k hn hm => htests _ i v h₂ m₂ tk hv k hn hm) (fun i v h₂ m₂ tk hv hpv k hn hm => helt _ i v h₂ m₂ tk hv hpv k hn hm)
      fun h' tk m' ys vs k hn hl hlen hP hF => hRR _ _ h' tk m' ys vs hgD hgC hDC k hn hl hlen hP hF
  exact codeAny_compStart_list (loop _ rfl) (Wk.self 0 _ _ _ hst₁ (loop _ rfl))

/-- a comprehension over one source, whose element makes new things alone -/
theorem comp {hz : Heap} {tz : Nat} {elt iter : Expr} {x : Str} {px : Pos} {ifs : List Expr} {scope : Scope} {pos : Pos} {Q : Value → Shared → Prop}
    (p : Value → Bool) (R : (Addr → Prop) → Heap → Value → Value → Prop) (hR : Soft R)
    (hfree : ∀ y ∈ scope.names, y.2 ≠ .free) (hcell : ∀ y ∈ scope.names, y.2 ≠ .cell) (hkind : scope.kind = .function)
    (hnames : ∀ y ∈ scope.names, y.2 = .local → scope.names.lookup y.1 = some .local) (hx : scope.names.lookup x = some .local)
    (h : wpAny (model PG w) A (eval iter env) (fun xv s₁ => wpAny (model PG w) A (pyIter xv) (fun it s₂ => ∃ n P g g₂ V tk₂, s₂ = S r g₂ tk₂ ∧ Iters w A V g it g₂ n P ∧ n ≤ sizeLine ∧
      (∀ C i v h₂ m₂ tk, P i v → g.StaysIn h₂ → h₂.Ns C m₂ → m₂ x = some v →
        wpAny (model PG w) A (testsOf ifs (compEnv scope C env)) (fun ok s₃ => ok = p v ∧ ∃ h₃ tk₃, s₃ = S r h₃ tk₃ ∧ h₂.StaysIn h₃) NoE (S r h₂ tk)) ∧
      (∀ C i v h₂ m₂ tk, P i v → p v = true → g.StaysIn h₂ → h₂.Ns C m₂ → m₂ x = some v →
        wpAny (model PG w) A (eval elt (compEnv scope C env)) (fun y s₃ => ∃ h₃ tk₃, s₃ = S r h₃ tk₃ ∧ h₂.StaysIn h₃ ∧ R (Free h₂) h₃ v y) NoE (S r h₂ tk)) ∧
      (∀ D h' tk ys (vs : List Value), g.get? D = none → g.StaysIn h' → h'.IsList D (List.toArray ys) → vs.length = n → (∀ j v, vs[j]? = some v → P j v) → All2 (R (FreeBut g D) h') (vs.filter p) ys →
        Q (.ref D) (S r h' tk))) E s₁) E (S r hz tz))
    (hs : ∀ x, foldedSetIterable iter env x = pure x := by intro _; rfl) :
    wpAny (model PG w) A (eval (.ListComp elt [⟨.Name x px, iter, ifs, 0⟩] scope pos) env) Q E (S r hz tz) := by
  refine wpAny_ListComp hfree hkind hnames (wpAny_mono h (fun xv s₁ h₁ => wpAny_mono h₁ (fun it s₂ h₂ => ?_) fun _ _ e => e) fun _ _ e => e) hs
  obtain ⟨n, P, g, g₂, V, tk₂, rfl, It, hsz, ht, he, hQ⟩ := h₂
  refine comp_block (r := r) (g₂ := g₂) (tk0 := tk₂) (RR := fun acc cenv r s' => ∃ m, s'.heap.Ns cenv.locals m ∧ ∀ h', Heap.SameBut cenv.locals s'.heap h' →
      match r with | .ok _ => Q acc { s' with heap := h' } | .error x => wpAny (model PG w) A (passOn "comprehension.variables-let-go" x cenv) Q E { s' with heap := h' }) p R hR hcell hkind hx It hsz ht he ?_
  intro D C h' tk m' ys vs hD hC hDC k hn hl hlen hP hF
  refine ⟨m', hn, fun h'' hs'' => ?_⟩
  have lk : LK h' h'' := LK.of_same (fun xs => not_list_of_ns hn) hs''
  exact hQ D h'' tk ys vs hD (fun b o e => hs''.extBut b o (fun q => by rw [q] at e; exact absurd (hC.symm.trans e) (by simp)) (k b o e)) (lk _ _ hl) hlen hP (hF.imp fun _ _ r => hR _ _ _ _ _ _ (fun a xs ok l => ⟨ok, lk _ _ l⟩) r)

/-- `y = [.. for x in ..]` -/
theorem comp_assign {hz : Heap} {tz : Nat} {elt iter : Expr} {x y : Str} {px py : Pos} {ifs : List Expr} {scope : Scope} {pos spos : Pos} {Q : Flow → Shared → Prop}
    (p : Value → Bool) (R : (Addr → Prop) → Heap → Value → Value → Prop) (hR : Soft R)
    (hsw : swapsWith (.ListComp elt [⟨.Name x px, iter, ifs, 0⟩] scope pos) (some (.Name y py)) spos.line env = pure true)
    (hfree : ∀ y ∈ scope.names, y.2 ≠ .free) (hcell : ∀ y ∈ scope.names, y.2 ≠ .cell) (hkind : scope.kind = .function)
    (hnames : ∀ y ∈ scope.names, y.2 = .local → scope.names.lookup y.1 = some .local) (hx : scope.names.lookup x = some .local)
    (h : wpAny (model PG w) A (eval iter env) (fun xv s₁ => wpAny (model PG w) A (pyIter xv) (fun it s₂ => ∃ n P g g₂ V m tk₂, s₂ = S r g₂ tk₂ ∧ Iters w A V g it g₂ n P ∧ n ≤ sizeLine ∧ g.Ns env.locals m ∧
      (∀ C i v h₂ m₂ tk, P i v → g.StaysIn h₂ → h₂.Ns C m₂ → m₂ x = some v →
        wpAny (model PG w) A (testsOf ifs (compEnv scope C env)) (fun ok s₃ => ok = p v ∧ ∃ h₃ tk₃, s₃ = S r h₃ tk₃ ∧ h₂.StaysIn h₃) NoE (S r h₂ tk)) ∧
      (∀ C i v h₂ m₂ tk, P i v → p v = true → g.StaysIn h₂ → h₂.Ns C m₂ → m₂ x = some v →
        wpAny (model PG w) A (eval elt (compEnv scope C env)) (fun y s₃ => ∃ h₃ tk₃, s₃ = S r h₃ tk₃ ∧ h₂.StaysIn h₃ ∧ R (Free h₂) h₃ v y) NoE (S r h₂ tk)) ∧
      (∀ D h' tk ys (vs : List Value), g.get? D = none → Kp (· = env.locals) g h' → h'.Ns env.locals (fun z => if z = y then some (.ref D) else m z) → h'.IsList D (List.toArray ys) → vs.length = n → (∀ j v, vs[j]? = some v → P j v) → All2 (R (FreeBut g D) h') (vs.filter p) ys →
        Q .next (S r h' tk))) E s₁) E (S r hz tz))
    (hy : env.kindOf y = some .local := by rfl) (hp : (env.scope.kind == .class || (env.scope.kind == .module && env.locals != env.globals)) = false := by rfl)
    (hs : ∀ x, foldedSetIterable iter env x = pure x := by intro _; rfl) :
    wpAny (model PG w) A (exec (.Assign [.Name y py] (.ListComp elt [⟨.Name x px, iter, ifs, 0⟩] scope pos) spos) env) Q E (S r hz tz) := by
  rw [exec_Assign_Name_used _ _ _ _ hsw]
  refine wpAny_bind (wpAny_standAt (wpAny_bind ?_))
  show wpAny _ A (do let _ ← comprehension (.ListComp elt [⟨.Name x px, iter, ifs, 0⟩] scope pos) scope env _ (newList []) false (eval iter env) (some (assign (.Name y py) env))) _ _ (S r hz tz)
  refine wpAny_bind (wpAny_mono (wpAny_comprehension_use (Q := fun _ s' => Q .next s') rfl hs hfree hkind hnames (wpAny_mono h (fun xv s₁ h₁ => wpAny_mono h₁ (fun it s₂ h₂ => ?_) fun _ _ e => e) fun _ _ e => e))
    (fun _ s' hq => wpAny_pure (wpAny_pure hq)) fun _ _ e => e)
  obtain ⟨n, P, g, g₂, V, m, tk₂, rfl, It, hsz, hn, ht, he, hQ⟩ := h₂
  refine comp_block (r := r) (g₂ := g₂) (tk0 := tk₂) (RR := fun acc cenv r s' => match r with
      | .ok _ => wpAny (model PG w) A (assign (.Name y py) env acc) (fun _ s'' => ∃ m, s''.heap.Ns cenv.locals m ∧ ∀ h', Heap.SameBut cenv.locals s''.heap h' → Q .next { s'' with heap := h' }) E s'
      | .error x => ∃ m, s'.heap.Ns cenv.locals m ∧ ∀ h', Heap.SameBut cenv.locals s'.heap h' → wpAny (model PG w) A (passOn "comprehension.variables-let-go" x cenv) (fun _ s' => Q .next s') E { s' with heap := h' }) p R hR hcell hkind hx It hsz ht he ?_
  intro D C h' tk m' ys vs hD hC hDC k hnC hl hlen hP hF
  have hLC : env.locals ≠ C := by rintro rfl; obtain ⟨o, _, _, ho, _⟩ := hn; rw [hC] at ho; cases ho
  have hLD : env.locals ≠ D := by rintro rfl; obtain ⟨o, _, _, ho, _⟩ := hn; rw [hD] at ho; cases ho
  have hnL : h'.Ns env.locals m := hn.keeps k
  refine wpAny_assign_Name (wpAny_storeName_local hy hnL (fun h₂ hn₂ hs₂ => ?_) hp)
  have hnC₂ := hnC.sameBut hs₂ (Ne.symm hLC)
  refine ⟨m', hnC₂, fun h₃ hs₃ => ?_⟩
  have lk : LK h' h₃ := (LK.of_same (fun xs => not_list_of_ns hnL) hs₂).trans (LK.of_same (fun xs => not_list_of_ns hnC₂) hs₃)
  refine hQ D h₃ _ ys vs hD (fun b o hb e => ?_) (hn₂.sameBut hs₃ hLC) (lk _ _ hl) hlen hP (hF.imp fun _ _ r => hR _ _ _ _ _ _ (fun a xs ok l => ⟨ok, lk _ _ l⟩) r)
  exact hs₃.extBut b o (fun q => by rw [q] at e; exact absurd (hC.symm.trans e) (by simp)) (hs₂.extBut b o hb (k b o e))
end
end Mine

namespace Mine

section
variable {w : World} {A : Around} {E : Value → Shared → Prop} {r : Shared} {h : Heap} {tk : Nat} {env : Env}
theorem cInt {M : Model} {i : Int} {k : Nat} {pos : Pos} {Q : Value → Shared → Prop} (hQ : Q (.int i tk) (S r h (tk + 1))) : wpAny M A (eval (.Constant (.int i) k pos) env) Q E (S r h tk) := wpAny_Constant_int (s := S r h tk) hQ
theorem iaddS {a b : Int} {t u : Tok} {Q : Value → Shared → Prop} (hQ : Q (.int (a + b) tk) (S r h (tk + 1))) : wpAny (model PG w) A (inplaceOp .Add (.int a t) (.int b u)) Q E (S r h tk) := wpAny_iadd_int (s := S r h tk) hQ

theorem frKp {h₀ h h' : Heap} {L : Addr} {m m' : Str → Option Value} {W : Addr → Prop} (F : Fr h₀ L h m) (k : Kp W h h') (hn : h'.Ns L m') (hW : ∀ b, W b → h₀.get? b = none) : Fr h₀ L h' m' :=
  ⟨hn, fun b o e => k b o (fun q => by rw [hW b q] at e; cases e) (F.keep b o e), F.above⟩
theorem frFree {h₀ h : Heap} {L : Addr} {m : Str → Option Value} (F : Fr h₀ L h m) : h₀.get? L = none := get?_ge F.above
end

mutual
def Tree.weight : Tree → Nat
  | .node ks => 1 + weights ks
def weights : List Tree → Nat
  | [] => 0
  | k :: ks => k.weight + weights ks
end
mutual
def Tree.ht : Tree → Nat
  | .node ks => hts ks
def hts : List Tree → Nat
  | [] => 0
  | k :: ks => max (k.ht + 1) (hts ks)
end
theorem ht_mem : ∀ {ks : List Tree} {k : Tree}, k ∈ ks → k.ht + 1 ≤ hts ks
  | _ :: ks, k, h => by
    rw [hts]
    rcases List.mem_cons.mp h with rfl | h
    · exact Nat.le_max_left _ _
    · exact Nat.le_trans (ht_mem h) (Nat.le_max_right _ _)
theorem ht_kid {ks : List Tree} {k : Tree} (h : k ∈ ks) : k.ht + 1 ≤ (Tree.node ks).ht := by rw [Tree.ht]; exact ht_mem h
theorem weights_append : ∀ a b, weights (a ++ b) = weights a + weights b
  | [], b => by simp [weights]
  | k :: a, b => by rw [List.cons_append, weights, weights, weights_append a b]; omega
theorem take_snoc {α : Type} {l : List α} {i : Nat} {x : α} (h : l[i]? = some x) : l.take (i + 1) = l.take i ++ [x] := by
  rw [List.take_add_one, h]; rfl

theorem weight_spec (w : World) : ∀ t h v, TreeAt h Any t v → Spec w (2 * t.ht + 2) 48 [v] [] h (fun _ r => ∃ tk, r = .int t.weight tk) := treeInd fun ks ih h v ht => by
  obtain ⟨a, vs, rfl, -, hl, hts⟩ := treeAt_iff.mp ht
  intro A r tk Q E C hh hd hu ret
  have hrl : recursionLimit = 1000 := rfl
  refine enter C (by omega) (f := 48) (binds := [(Str.ofString "node", .ref a)]) rfl rfl (BindsTo.of_eq rfl) rfl (fun L h₁ tk₁ F push => ?_)
  refine wpAny_execs_cons (wpAny_Assign_Name (cInt (stS F.ns fun h₂ hn₂ hs₂ => ?_)))
  have F₂ := F.set hn₂ hs₂
  have hl₂ := LK.of_stays F₂.keep _ _ hl
  refine wpAny_execs_cons (For_walk (W := (· = L)) (J := fun i h m => ∃ tk, m (Str.ofString "weight") = some (.int (1 + (weights (ks.take i) : Nat)) tk)) ?hJ ?_)
  case hJ =>
    rintro i h h' m m' ⟨tk, e⟩ _ _ hm
    exact ⟨tk, (hm _ (by decide)).trans e⟩
  refine nmL F₂.ns rfl ?_
  refine iters_list (· = L) hh hl₂ (fun q => not_list_of_ns F₂.ns (q ▸ hl₂)) (fun b hb => hb ▸ F₂.ns.lt) fun it g₂ It => ?_
  refine ⟨_, _, _, h₂, g₂, _, rfl, It, rfl, F₂.ns, ⟨_, by simp [weights]; rfl⟩, ?_, ?_⟩
  · rintro i v h₃ m₃ tk₃ hi hv kp hn₃ hx ⟨tkw, hw⟩
    have F₃ := frKp F₂ kp hn₃ fun b hb => hb ▸ frFree F₂
    obtain ⟨k, hk, hkt⟩ := hts.flip.get hv
    have C₃ := push _ _ F₃
    refine wpAny_execs_cons (wpAny_AugAssign_Name ?_)
    refine wpAny_loadName_local rfl rfl hn₃ hw ?_
    refine call1 C₃ rfl rfl (nmL hn₃ hx ⟨C₃.X, ?_⟩)
    have hkk : k ∈ ks := List.mem_of_getElem? hk
    have hht := ht_kid hkk
    refine ih k hkk h₃ v (hkt.lk (LK.of_stays F₃.keep)) _ _ _ _ _ C₃ hh (by simp only [Around.deeper]; omega) (by simp only [Around.deeper]; omega) ?_
    rintro v' h₄ tk₄ k₄ ⟨tkv, rfl⟩
    refine iaddS (stS (hn₃.keeps k₄) fun h₅ hn₅ hs₅ => ?_)
    refine wpAny_execs_nil ⟨.inl rfl, h₅, _, _, rfl, (Kp.of_stays k₄).trans (Kp.of_same rfl hs₅), hn₅, ⟨tk₄, ?_⟩⟩
    have e : weights (ks.take (i + 1)) = weights (ks.take i) + k.weight := by
      rw [take_snoc hk, weights_append]; simp [weights]
    rw [e]
    show some _ = some _
    congr 2
    omega
  · rintro h' tk' m' kp hn' ⟨tkw, hw⟩
    have F' := frKp F₂ kp hn' fun b hb => hb ▸ frFree F₂
    refine wpAny_execs_cons (wpAny_Return_some (nmL hn' hw ?_))
    refine ret _ h' tk' F'.keep ⟨tkw, ?_⟩
    rw [← hts.length, List.take_length, Tree.weight]
    simp
end Mine

namespace Mine

mutual
def Tree.num : Tree → Nat
  | .node ks => nums ks
def nums : List Tree → Nat
  | [] => 0
  | k :: ks => 2 ^ k.num ||| nums ks
end
theorem nums_append : ∀ a b, nums (a ++ b) = nums a ||| nums b
  | [], b => by simp [nums]
  | k :: a, b => by rw [List.cons_append, nums, nums, nums_append a b, Nat.or_assoc]
theorem nums_lt : ∀ {ks : List Tree} {m : Nat}, (∀ k ∈ ks, k.num < m) → nums ks < 2 ^ m
  | [], m, _ => by rw [nums]; exact Nat.two_pow_pos m
  | k :: ks, m, h => by
    rw [nums]
    exact Nat.or_lt_two_pow (Nat.pow_lt_pow_right (by decide) (h k (.head _))) (nums_lt fun k' hk => h k' (.tail _ hk))
theorem ht_le_of_hts {ks : List Tree} {n : Nat} (h : hts ks ≤ n + 1) : ∀ k ∈ ks, k.ht ≤ n := fun k hk => by have := ht_mem hk; omega
theorem hts_zero : ∀ {ks : List Tree}, hts ks ≤ 0 → ks = []
  | [], _ => rfl
  | k :: ks, h => by rw [hts] at h; omega
theorem num0 : ∀ t : Tree, t.ht ≤ 0 → t.num < 1
  | .node ks, h => by rw [Tree.ht] at h; rw [hts_zero h]; simp [Tree.num, nums]
theorem num1 : ∀ t : Tree, t.ht ≤ 1 → t.num < 2
  | .node ks, h => by rw [Tree.ht] at h; rw [Tree.num]; exact nums_lt (m := 1) fun k hk => num0 k (ht_le_of_hts h k hk)
theorem num2 : ∀ t : Tree, t.ht ≤ 2 → t.num < 4
  | .node ks, h => by rw [Tree.ht] at h; rw [Tree.num]; exact nums_lt (m := 2) fun k hk => num1 k (ht_le_of_hts h k hk)
theorem num3 : ∀ t : Tree, t.ht ≤ 3 → t.num < 16
  | .node ks, h => by rw [Tree.ht] at h; rw [Tree.num]; exact nums_lt (m := 4) fun k hk => num2 k (ht_le_of_hts h k hk)
theorem num4 : ∀ t : Tree, t.ht ≤ 4 → t.num < 65536
  | .node ks, h => by rw [Tree.ht] at h; rw [Tree.num]; exact nums_lt (m := 16) fun k hk => num3 k (ht_le_of_hts h k hk)
theorem num_kid {ks : List Tree} (h : (Tree.node ks).ht ≤ 4) {k : Tree} (hk : k ∈ ks) : k.num < 16 := by
  rw [Tree.ht] at h; exact num3 k (ht_le_of_hts h k hk)

theorem bitOr_nat (a b : Nat) : Builtin.bitOr (a : Int) (b : Int) = ((a ||| b : Nat) : Int) := by
  unfold Builtin.bitOr
  have e : ∀ n : Nat, Builtin.bitNot (n : Int) = -(n : Int) - 1 := fun n => by simp [Builtin.bitNot] <;> omega
  have e2 : ∀ n : Nat, Builtin.bitNot (-(n : Int) - 1) = n := fun n => by simp [Builtin.bitNot] <;> omega
  rw [e, e, bitAnd_nn (by omega) (by omega), e2, e2]
  simp [Builtin.bitNot] <;> omega

section
variable {w : World} {A : Around} {E : Value → Shared → Prop} {r : Shared} {h : Heap} {tk : Nat} {env : Env}
theorem orS {a b : Nat} {t u : Tok} {Q : Value → Shared → Prop} (hQ : Q (.int ((a ||| b : Nat) : Int) tk) (S r h (tk + 1))) : wpAny (model PG w) A (binaryOp .BitOr (.int a t) (.int b u)) Q E (S r h tk) :=
  or_int (s := S r h tk) (by rw [bitOr_nat]; exact hQ)
theorem shlS {n : Nat} {t u : Tok} {Q : Value → Shared → Prop} (hn : n ≤ 1000000) (hQ : Q (.int ((2 ^ n : Nat) : Int) tk) (S r h (tk + 1))) : wpAny (model PG w) A (binaryOp .LShift (.int 1 t) (.int n u)) Q E (S r h tk) := by
  refine lshift_int_small (s := S r h tk) (by omega) (by omega) (by decide) ?_
  have e : (1 : Int) * 2 ^ (n : Int).toNat = ((2 ^ n : Nat) : Int) := by simp
  rw [e]
  exact hQ
end

theorem number_spec (w : World) : ∀ t h v, t.ht ≤ 4 → TreeAt h Any t v → Spec w (2 * t.ht + 2) 62 [v] [] h (fun _ r => ∃ tk, r = .int t.num tk) := treeInd fun ks ih h v h4 ht => by
  obtain ⟨a, vs, rfl, -, hl, hts⟩ := treeAt_iff.mp ht
  intro A r tk Q E C hh hd hu ret
  have hrl : recursionLimit = 1000 := rfl
  refine enter C (by omega) (f := 62) (binds := [(Str.ofString "node", .ref a)]) rfl rfl (BindsTo.of_eq rfl) rfl (fun L h₁ tk₁ F push => ?_)
  refine wpAny_execs_cons (wpAny_Assign_Name (cInt (stS F.ns fun h₂ hn₂ hs₂ => ?_)))
  have F₂ := F.set hn₂ hs₂
  have hl₂ := LK.of_stays F₂.keep _ _ hl
  refine wpAny_execs_cons (For_walk (W := (· = L)) (J := fun i h m => ∃ tk, m (Str.ofString "number") = some (.int (nums (ks.take i) : Nat) tk)) ?hJ ?_)
  case hJ =>
    rintro i h h' m m' ⟨tk, e⟩ _ _ hm
    exact ⟨tk, (hm _ (by decide)).trans e⟩
  refine nmL F₂.ns rfl ?_
  refine iters_list (· = L) hh hl₂ (fun q => not_list_of_ns F₂.ns (q ▸ hl₂)) (fun b hb => hb ▸ F₂.ns.lt) fun it g₂ It => ?_
  refine ⟨_, _, _, h₂, g₂, _, rfl, It, rfl, F₂.ns, ⟨_, by simp [nums]; rfl⟩, ?_, ?_⟩
  · rintro i v h₃ m₃ tk₃ hi hv kp hn₃ hx ⟨tkw, hw⟩
    have F₃ := frKp F₂ kp hn₃ fun b hb => hb ▸ frFree F₂
    obtain ⟨k, hk, hkt⟩ := hts.flip.get hv
    have C₃ := push _ _ F₃
    have hkk : k ∈ ks := List.mem_of_getElem? hk
    have hht := ht_kid hkk
    have hnk := num_kid h4 hkk
    refine wpAny_execs_cons (wpAny_Assign_Name (wpAny_BinOp (nmL hn₃ hw (wpAny_BinOp (cInt ?_)))))
    refine call1 C₃ rfl rfl (nmL hn₃ hx ⟨C₃.X, ?_⟩)
    refine ih k hkk h₃ v (by omega) (hkt.lk (LK.of_stays F₃.keep)) _ _ _ _ _ C₃ hh (by simp only [Around.deeper]; omega) (by simp only [Around.deeper]; omega) ?_
    rintro v' h₄ tk₄ k₄ ⟨tkv, rfl⟩
    refine shlS (by omega) (orS (stS (hn₃.keeps k₄) fun h₅ hn₅ hs₅ => ?_))
    refine wpAny_execs_nil ⟨.inl rfl, h₅, _, _, rfl, (Kp.of_stays k₄).trans (Kp.of_same rfl hs₅), hn₅, ⟨tk₄ + 1, ?_⟩⟩
    have e : nums (ks.take (i + 1)) = nums (ks.take i) ||| 2 ^ k.num := by
      rw [take_snoc hk, nums_append]; simp [nums]
    rw [e]
    rfl
  · rintro h' tk' m' kp hn' ⟨tkw, hw⟩
    have F' := frKp F₂ kp hn' fun b hb => hb ▸ frFree F₂
    refine wpAny_execs_cons (wpAny_Return_some (nmL hn' hw ?_))
    refine ret _ h' tk' F'.keep ⟨tkw, ?_⟩
    rw [← hts.length, List.take_length, Tree.num]
end Mine

namespace Mine

section
variable {w : World} {A : Around} {E : Value → Shared → Prop} {r : Shared} {h : Heap} {tk : Nat} {env : Env}
theorem get?_none_of_stays {g g' : Heap} (k : g.StaysIn g') {a : Addr} (e : g'.get? a = none) : g.get? a = none := by
  cases q : g.get? a with
  | none => rfl
  | some o => rw [k _ _ q] at e; cases e

/-- `xs[lo:hi:step]` of a list: a new list -/
theorem slice_step {hz : Heap} {tz : Nat} {value st : Expr} {lower upper : Option Expr} {p pos : Pos} {Q : Value → Shared → Prop}
    (hq : wpAny (model PG w) A (eval value env) (fun o s₁ => wpAny (model PG w) A (evalPart lower env) (fun vl s₂ => wpAny (model PG w) A (evalPart upper env) (fun vu s₃ => wpAny (model PG w) A (eval st env) (fun vk s₄ =>
      ∃ l items lo hi k g t, s₄ = S r g t ∧ o = .ref l ∧ g.IsList l items ∧ items.size ≤ sizeLine ∧ IsPart vl lo ∧ IsPart vu hi ∧ IsPart vk k ∧ k ≠ some 0 ∧
        ∀ D h', g.StaysIn h' → g.get? D = none → h'.IsList D (slicePick items lo hi k) → Q (.ref D) (S r h' t)) E s₃) E s₂) E s₁) E (S r hz tz))
    (ht : ∀ o r, letTemporaryGo value o r = pure () := by intro _ _; rfl) :
    wpAny (model PG w) A (eval (.Subscript value (.Slice lower upper (some st) p) pos) env) Q E (S r hz tz) := by
  refine wpAny_Subscript_Slice_step (T := "list") list_getitem_lookup (wpAny_mono hq (fun o s₁ h₁ => wpAny_Slice (wpAny_mono h₁ (fun vl s₂ h₂ => wpAny_mono h₂ (fun vu s₃ h₃ => ?_) fun _ _ e => e) fun _ _ e => e)) fun _ _ e => e) ht
  rw [evalPart_some]
  refine wpAny_mono h₃ (fun vk s₄ h₄ => ?_) fun _ _ e => e
  obtain ⟨l, items, lo, hi, k, g, t, rfl, rfl, hl, hsz, pl, pu, pk, h0, hQ⟩ := h₄
  refine ⟨(hl.push _).typeIs (s := S r (g.push { cls := .type "slice", data := .fields #[vl, vu, vk] }) t), ?_⟩
  refine wpAny_getItem_list_slice (s := S r (g.push { cls := .type "slice", data := .fields #[vl, vu, vk] }) t) (hl.push _) (Heap.IsSliceOf.new ..) pl pu pk h0 ?_ hsz
  refine hQ _ _ (stays_trans (stays_push _ _) (stays_push _ _)) ?_ (isList_push _ _)
  exact get?_ge (by rw [Heap.size_push]; exact Nat.le_succ _)

theorem negS {n : Int} {t : Tok} {Q : Value → Shared → Prop} (hQ : Q (.int (-n) tk) (S r h (tk + 1))) : wpAny (model PG w) A (unaryOp .USub (.int n t)) Q E (S r h tk) := neg_int (s := S r h tk) hQ
theorem tests_nil {Q : Bool → Shared → Prop} {s : Shared} {M : Model} (hQ : Q true s) : wpAny M A (testsOf [] env) Q E s := wpAny_pure hQ
theorem filter_all (vs : List Value) : vs.filter (fun _ => true) = vs := by simp
end

theorem all2_fun {α β : Type} {R : α → β → Prop} (inj : ∀ a a' b, R a b → R a' b → a = a') : ∀ {as as' : List α} {bs : List β}, All2 R as bs → All2 R as' bs → as = as'
  | [], _, [], .nil, h => by cases h; rfl
  | _ :: _, _, _ :: _, .cons x y, h => by cases h with | cons x' y' => rw [inj _ _ _ x x', all2_fun inj y y']
theorem treeAt_inj {h : Heap} : ∀ t, ∀ {ok ok' : Addr → Prop} {t' : Tree} {v : Value}, TreeAt h ok t v → TreeAt h ok' t' v → t = t' := treeInd fun ks ih ok ok' t' v x y => by
  cases t' with
  | node ks' =>
    obtain ⟨a, vs, rfl, _, l, q⟩ := treeAt_iff.mp x
    obtain ⟨a', vs', e, _, l', q'⟩ := treeAt_iff.mp y
    cases e
    have e : vs = vs' := by simpa using congrArg Array.toList (isList_inj l l')
    subst e
    congr 1
    have q2 : All2 (fun k v => k ∈ ks ∧ TreeAt h ok k v) ks vs := q.imp_mem fun k v hk _ r => ⟨hk, r⟩
    clear x y l l' q
    have gen : ∀ {as as' : List Tree} {bs : List Value}, All2 (fun k v => k ∈ ks ∧ TreeAt h ok k v) as bs → All2 (TreeAt h ok') as' bs → as = as' := by
      intro as as' bs p
      induction p generalizing as' with
      | nil => intro z; cases z; rfl
      | cons u _ ih2 =>
        intro z
        cases z with
        | cons z1 z2 => rw [ih _ u.1 u.2 z1, ih2 z2]
    exact gen q2 q'
theorem all2_pick {g : Heap} {ok : Addr → Prop} {T : Tree → Value → Prop} : ∀ {ks : List Tree} {vs ys : List Value}, All2 (TreeAt g ok) ks vs → All2 (fun v y => ∃ k, TreeAt g ok k v ∧ T k y) vs ys → All2 T ks ys
  | _, _, _, .nil, h => by cases h; exact .nil
  | _, _, _, .cons x y, h => by
    cases h with
    | cons x' y' =>
      obtain ⟨k, hk, ht⟩ := x'
      rw [← treeAt_inj _ x hk] at ht
      exact .cons ht (all2_pick y y')
theorem list_eq_get {α : Type} {xs ys : List α} (hl : xs.length = ys.length) (h : ∀ (j : Nat) v, xs[j]? = some v → ys[j]? = some v) : xs = ys := by
  apply List.ext_getElem? 
  intro i
  cases e : xs[i]? with
  | some v => exact (h i v e).symm
  | none =>
    have : ys.length ≤ i := by rw [← hl]; exact List.getElem?_eq_none_iff.mp e
    exact (List.getElem?_eq_none this).symm

mutual
def Tree.turn : Tree → Tree
  | .node ks => .node (turns ks)
def turns : List Tree → List Tree
  | [] => []
  | k :: ks => turns ks ++ [k.turn]
end
theorem turns_eq : ∀ ks, turns ks = ks.reverse.map Tree.turn
  | [] => by simp [turns]
  | k :: ks => by rw [turns, turns_eq ks]; simp

theorem slice_rev (vs : List Value) : slicePick vs.toArray none none (some (-1)) = vs.reverse.toArray := by
  rw [krv_pick]

theorem weight_pos : ∀ t : Tree, 1 ≤ t.weight
  | .node ks => by rw [Tree.weight]; omega
theorem len_weights : ∀ ks : List Tree, ks.length ≤ weights ks
  | [] => Nat.zero_le _
  | k :: ks => by rw [weights, List.length_cons]; have := weight_pos k; have := len_weights ks; omega
theorem weight_mem : ∀ {ks : List Tree} {k : Tree}, k ∈ ks → k.weight ≤ weights ks
  | _ :: ks, k, h => by
    rw [weights]
    rcases List.mem_cons.mp h with rfl | h
    · exact Nat.le_add_right _ _
    · exact Nat.le_trans (weight_mem h) (Nat.le_add_left _ _)

theorem turned_spec (w : World) : ∀ t h v, t.weight ≤ 100 → TreeAt h Any t v → Spec w (2 * t.ht + 2) 41 [v] [] h (fun h' r => TreeAt h' (Free h) t.turn r) := treeInd fun ks ih h v hw ht => by
  obtain ⟨a, vs, rfl, -, hl, hts⟩ := treeAt_iff.mp ht
  intro A r tk Q E C hh hd hu ret
  have hrl : recursionLimit = 1000 := rfl
  rw [Tree.weight] at hw
  have hsz : vs.length ≤ 100 := by
    rw [← hts.length]; have := len_weights ks; omega
  refine enter C (by omega) (f := 41) (binds := [(Str.ofString "node", .ref a)]) rfl rfl (BindsTo.of_eq rfl) rfl (fun L h₁ tk₁ F push => ?_)
  refine wpAny_execs_cons (wpAny_Return_some ?_)
  have soft : Soft fun ok h' v y => ∃ k, TreeAt h Any k v ∧ TreeAt h' ok k.turn y := fun ok ok' h h' v y f q => let ⟨k, h1, h2⟩ := q; ⟨k, h1, h2.mono f⟩
  refine comp (fun _ => true) (fun ok h' v y => ∃ k, TreeAt h Any k v ∧ TreeAt h' ok k.turn y) soft (by decide) (by decide) rfl (by decide) rfl ?_
  refine slice_step (nmL F.ns rfl (wpAny_pure (wpAny_pure (wpAny_UnaryOp (cInt (negS ?_))))))
  refine ⟨a, vs.toArray, none, none, some (-1), h₁, _, rfl, rfl, LK.of_stays F.keep _ _ hl, ?_, .none, .none, .int _ _, by decide, ?_⟩
  · rw [List.size_toArray, sizeLine_eq]; omega
  intro D h₂ k₂ hD hlD
  rw [slice_rev] at hlD
  refine iters_list (fun _ => False) hh hlD (fun q => q) (fun b q => q.elim) fun it g₂ It => ?_
  refine ⟨_, _, h₂, g₂, _, _, rfl, It, ?_, ?_, ?_, ?_⟩
  · rw [List.length_reverse, sizeLine_eq]; omega
  · intro C i v h₃ m₃ tk₃ hv k₃ hn₃ hx
    exact tests_nil ⟨rfl, h₃, tk₃, rfl, stays_refl _⟩
  · intro Cc i v h₃ m₃ tk₃ hv _ k₃ hn₃ hx
    have F₃ : Fr h L h₃ _ := ⟨(F.ns.keeps k₂).keeps k₃, stays_trans F.keep (stays_trans k₂ k₃), F.above⟩
    have C₃ := push _ _ F₃
    obtain ⟨k, hk, hkt⟩ := hts.reverse.flip.get hv
    have hkk : k ∈ ks := by simpa using List.mem_of_getElem? hk
    have hht := ht_kid hkk
    refine call1 C₃ rfl rfl (nmL hn₃ hx ⟨C₃.X, ?_⟩)
    refine ih k hkk h₃ v (by have := weight_mem hkk; omega) (hkt.lk (LK.of_stays F₃.keep)) _ _ _ _ _ C₃ hh (by simp only [Around.deeper]; omega) (by simp only [Around.deeper]; omega) ?_
    intro v' h₄ tk₄ k₄ hv'
    exact ⟨h₄, tk₄, rfl, k₄, k, hkt, hv'⟩
  · intro D' h₄ tk₄ ys vs' hD' k₄ hl' hlen hP hF
    rw [filter_all] at hF
    have e := list_eq_get hlen hP
    subst e
    refine ret _ h₄ tk₄ (stays_trans F.keep (stays_trans k₂ k₄)) (treeAt_iff.mpr ⟨D', ys, rfl, ?_, hl', ?_⟩)
    · exact get?_none_of_stays (stays_trans F.keep k₂) hD'
    · rw [turns_eq]
      refine All2.map_left ?_
      have q := all2_pick hts.reverse hF
      exact q.imp fun k y z => z.mono fun a xs o l => ⟨get?_none_of_stays (stays_trans F.keep k₂) o.1, l⟩
end Mine

namespace Mine

section
variable {w : World} {A : Around} {E : Value → Shared → Prop} {r : Shared} {h : Heap} {tk : Nat} {env : Env}

theorem iters_range (W : Addr → Prop) {l : Addr} {n : Nat} {t u v : Tok} {Q : Value → Shared → Prop} (hh : A.handled = none) (hr : IsRange h l 0 n 1 t u v) (hn : n < 1000000) (hlt : ∀ b, W b → b < h.objs.size)
    (hQ : ∀ it g₂, Iters w A W h it g₂ n (fun i v => ∃ t, v = .int (i : Nat) t) → Q it (S r g₂ tk)) : wpAny (model PG w) A (pyIter (.ref l)) Q E (S r h tk) := by
  refine wpAny_pyIter_range (s := S r h tk) hr (small_one (by decide) (by decide) (by omega) (by omega)) (hQ _ _ ?_)
  have hsz : Builtin.Range.rangeSize 0 n 1 = (n : Int) := by rw [rangeSize_one]; split <;> omega
  have Wk := Walks.range (prog := PG) (w := w) hh h.objs.size 0 1 n
  have e0 : ∀ i : Nat, ((0 : Int) + (i : Int) * 1) = (i : Int) := fun i => by omega
  simp only [e0] at Wk
  refine ⟨h.objs.size, _, _, _, rfl, Wk, ?_, stays_push _ _, ?_, ?_, ?_⟩
  · rw [hsz]
    have e2 : ((n : Int) - ((0 : Nat) : Int)) = n := by omega
    rw [e2]
    exact Heap.get?_push_size _ rfl
  · intro b hb
    rw [Heap.size_push, List.mem_singleton.mp hb]
    exact ⟨fun q => Nat.lt_irrefl _ (hlt _ q), Nat.lt_succ_self _⟩
  · intro b hb
    rw [List.mem_singleton.mp hb]
    exact get?_ge (Nat.le_refl _)
  · intro i h' st b hb xs x
    rw [List.mem_singleton.mp hb] at x
    obtain ⟨o, ho, hc, _⟩ := x
    have st' : h'.get? h.objs.size = _ := st
    rw [st'] at ho; cases ho
    exact absurd hc (by simp)

theorem rangeS {n : Nat} {t : Tok} {Q : Value → Shared → Prop} (hQ : ∀ h' l t u v, h.StaysIn h' → IsRange h' l 0 n 1 t u v → Q (.ref l) (S r h' (tk + 1 + 1))) : wpAny (model PG w) A (call (.type "range") [.int n t]) Q E (S r h tk) :=
  call_range_1 (s := S r h tk) (hQ _ _ _ _ _ (stays_push _ _) (IsRange.new ..))

theorem enterC {Q : Value → Shared → Prop} {name qual : Str} {params : Arguments} {body : List Stmt} {scope : Scope} {dV kV doc pm cdv ct oc : Value} {an od : Option Addr} {osl : Array (Option Value)} {f : Addr}
    {args : List Value} {kw : List (Str × Value)} {binds : List (Str × Value)}
    (C : Cx w A h) (hroom : A.depth < recursionLimit) (ho : (KP w).lookup f = some ⟨oc, od, .func (fnOf name qual params body scope dV kV doc pm an cdv ct), osl⟩) (hcd : codeIn (KP w) cdv qual = true)
    (hbind : BindsTo (S r h tk) (fnOf name qual params body scope dV kV doc pm an cdv ct) ⟨args, kw⟩ binds)
    (hkind : ∀ n, ∀ x ∈ binds, scope.names.lookup x.1 = some .local ∨ (scope.names.lookup x.1 = some .cell ∧ ((cellsFrom n scope.names []).lookup x.1).isSome = true))
    (hQ : ∀ L h₁ tk₁, Fr h L h₁ (bindL (envOfC qual scope L f cdv).kindOf binds fun _ => none) → (∀ n c, (cellsFrom (L + 1) scope.names []).lookup n = some c → h₁.IsCell c (bindC (envOfC qual scope L f cdv).kindOf binds (fun _ => none) n)) →
      (∀ h' m', Fr h L h' m' → Cx w (A.deeper (envOfC qual scope L f cdv)) h') →
      wpAny (model PG w) (A.deeper (envOfC qual scope L f cdv)) (execs body (envOfC qual scope L f cdv)) (fun fl s' => Q (match fl with | .ret v => v | _ => .none) s') NoE (S r h₁ tk₁))
    (hco : scope.isCoroutine = false := by rfl) (hgen : scope.isGenerator = false := by rfl) (hk : scope.kind = .function := by rfl) : wpAny (model PG w) A (call (.ref f) args kw) Q E (S r h tk) := by
  refine wpAny_call (codeAny_call_function (s := S r h tk) (fd := fnOf name qual params body scope dV kV doc pm an cdv ct) hroom (C.X _ _ ho) rfl hco hgen rfl (codeRec_of C.X hcd) (hbind _ _ _ _ ?_))
  refine wpAny_newFunctionEnv_cells hk (hkind _) fun env' he s' x => ?_
  subst he
  refine ⟨C.nolimit.keeps x.toInCall.keep, codeAny_func ?_⟩
  obtain ⟨h₁, tk₁, rfl, _⟩ := x.done
  have hk₁ := x.toInCall.keep
  refine wpAny_mono (hQ h.objs.size h₁ tk₁ ⟨x.toInCall.ns, hk₁, Nat.le_refl _⟩ (fun n c hc => x.cell n c hc) fun h' m' F => ?_) (fun fl s' hl => hl) fun _ _ x => x.elim
  obtain ⟨p, l, mg, mb, t⟩ := C.T
  obtain ⟨base, outer, b⟩ := C.B
  exact ⟨C.X.keeps F.keep, ⟨p, l, mg, mb, t.keeps F.keep⟩, ⟨base, _, pushX b F rfl hk⟩⟩

theorem comp_blockC {elt iter : Expr} {x : Str} {px : Pos} {ifs : List Expr} {scope : Scope} {cl : List (Str × Addr)} {pos : Pos} {it : Value} {n : Nat} {P : Nat → Value → Prop} {g g₂ : Heap} {tk0 : Nat} {V : Addr → Prop}
    (p : Value → Bool) (R : (Addr → Prop) → Heap → Value → Value → Prop) (hR : Soft R) {RR : Value → Addr → Result → Shared → Prop}
    (hcell : ∀ y ∈ scope.names, y.2 ≠ .cell) (hkind : scope.kind = .function) (hx : scope.names.lookup x = some .local) (It : Iters w A V g it g₂ n P) (hsz : n ≤ sizeLine)
    (htests : ∀ C i v h₂ m₂ tk, P i v → g.StaysIn h₂ → h₂.Ns C m₂ → m₂ x = some v →
      wpAny (model PG w) A (testsOf ifs (compEnvC scope cl C env)) (fun ok s₃ => ok = p v ∧ ∃ h₃ tk₃, s₃ = S r h₃ tk₃ ∧ h₂.StaysIn h₃) NoE (S r h₂ tk))
    (helt : ∀ C i v h₂ m₂ tk, P i v → p v = true → g.StaysIn h₂ → h₂.Ns C m₂ → m₂ x = some v →
      wpAny (model PG w) A (eval elt (compEnvC scope cl C env)) (fun y s₃ => ∃ h₃ tk₃, s₃ = S r h₃ tk₃ ∧ h₂.StaysIn h₃ ∧ R (Free h₂) h₃ v y) NoE (S r h₂ tk))
    (hRR : ∀ D C h' tk m' ys (vs : List Value), g.get? D = none → g.get? C = none → D ≠ C → g.StaysIn h' → h'.Ns C m' → h'.IsList D (List.toArray ys) → vs.length = n → (∀ j v, vs[j]? = some v → P j v) → All2 (R (FreeBut g D) h') (vs.filter p) ys →
      RR (.ref D) C (.ok .next) (S r h' tk)) :
    wpAny (model PG w) A (newList []) (fun acc s₃ => wpAny (model PG w) A (newFunctionEnv scope env.globals cl [] env.qual none .none (some env)) (fun cenv s₄ =>
      codeAny (model PG w) A (.compStart (.ListComp elt [⟨.Name x px, iter, ifs, 0⟩] scope pos) 0 it acc { cenv with scope := relabel scope env }) (RR acc cenv.locals) s₄) E s₃) E (S r g₂ tk0) := by
  obtain ⟨I, fp, wr, St, rfl, Wk, hst, hk, hfp, hwr, hnl⟩ := It
  refine wpAny_newObj_type (wpAny_newFunctionEnv hcell (by intro y hy; simp at hy) (fun h₁ hns₁ hsb₁ => ?_) hkind)
  dsimp only at hns₁ hsb₁ ⊢
  generalize hH2 : g₂.push { cls := .type "list", dict := none, data := .seq ([] : List Value).toArray } = H2 at hns₁ hsb₁ ⊢
  have hC : H2.objs.size = g₂.objs.size + 1 := by rw [← hH2, Heap.size_push]
  have hDC : g₂.objs.size ≠ H2.objs.size := by rw [hC]; exact Nat.ne_of_lt (Nat.lt_succ_self _)
  have hDf : g₂.objs.size ∉ fp := fun hm => Nat.lt_irrefl _ (hfp _ hm).2
  have hCf : H2.objs.size ∉ fp := fun hm => by have := (hfp _ hm).2; rw [hC] at this; exact Nat.lt_irrefl _ (Nat.lt_of_succ_lt this)
  have old : g₂.StaysIn h₁ := fun b o e => hsb₁.extBut b o (by rw [hC]; exact Nat.ne_of_lt (Nat.lt_succ_of_lt (Heap.lt_size e))) (Heap.get?_push_of_some _ (hH2 ▸ Heap.get?_push_of_some _ e))
  have hacc : h₁.IsList g₂.objs.size #[] := ⟨_, hsb₁.extBut _ _ hDC (Heap.get?_push_of_some _ (hH2 ▸ Heap.get?_push_size _ rfl)), rfl, 0, rfl⟩
  have hst₁ : St 0 h₁ := Wk.frame _ _ _ hst fun b _ o e => old b o e
  have fresh : ∀ a, g₂.objs.size ≤ a → g.get? a = none := fun a ha => get?_none_of_stays hk (get?_ge ha)
  have hgD := fresh g₂.objs.size (Nat.le_refl _)
  have hgC := fresh H2.objs.size (by rw [hC]; exact Nat.le_succ _)
  have loop : ∀ s₃ : Shared, s₃ = S r h₁ (tk0 + ([] : List (Str × Value)).length) →
      codeAny (model PG w) A (.compLoop (.ListComp elt [⟨.Name x px, iter, ifs, 0⟩] scope pos) 0 (.ref I) (.ref g₂.objs.size) (compEnvC scope cl H2.objs.size env))
        (RR (.ref g₂.objs.size) H2.objs.size) s₃ := by
    rintro s₃ rfl
    exact comp_loop (cenv := compEnvC scope cl H2.objs.size env) (g := g) Wk p R hR (lookup_relabel_local hx) (by simp [compEnvC, relabel, hkind]) hDC hDf hCf hgD hgC hwr hnl hst₁ hacc hns₁ (stays_trans hk old) hsz
      (fun i v h₂ m₂ tk hv k hn hm => htests _ i v h₂ m₂ tk hv k hn hm) (fun i v h₂ m₂ tk hv hpv k hn hm => helt _ i v h₂ m₂ tk hv hpv k hn hm)
      fun h' tk m' ys vs k hn hl hlen hP hF => hRR _ _ h' tk m' ys vs hgD hgC hDC k hn hl hlen hP hF
  exact codeAny_compStart_list (loop _ rfl) (Wk.self 0 _ _ _ hst₁ (loop _ rfl))

theorem compC {hz : Heap} {tz : Nat} {elt iter : Expr} {x : Str} {px : Pos} {ifs : List Expr} {scope : Scope} {cl : List (Str × Addr)} {pos : Pos} {Q : Value → Shared → Prop}
    (p : Value → Bool) (R : (Addr → Prop) → Heap → Value → Value → Prop) (hR : Soft R)
    (hclos : closureFor scope env = pure cl) (hcell : ∀ y ∈ scope.names, y.2 ≠ .cell) (hkind : scope.kind = .function)
    (hnames : ∀ y ∈ scope.names, y.2 = .local → scope.names.lookup y.1 = some .local) (hx : scope.names.lookup x = some .local)
    (h : wpAny (model PG w) A (eval iter env) (fun xv s₁ => wpAny (model PG w) A (pyIter xv) (fun it s₂ => ∃ n P g g₂ V tk₂, s₂ = S r g₂ tk₂ ∧ Iters w A V g it g₂ n P ∧ n ≤ sizeLine ∧
      (∀ C i v h₂ m₂ tk, P i v → g.StaysIn h₂ → h₂.Ns C m₂ → m₂ x = some v →
        wpAny (model PG w) A (testsOf ifs (compEnvC scope cl C env)) (fun ok s₃ => ok = p v ∧ ∃ h₃ tk₃, s₃ = S r h₃ tk₃ ∧ h₂.StaysIn h₃) NoE (S r h₂ tk)) ∧
      (∀ C i v h₂ m₂ tk, P i v → p v = true → g.StaysIn h₂ → h₂.Ns C m₂ → m₂ x = some v →
        wpAny (model PG w) A (eval elt (compEnvC scope cl C env)) (fun y s₃ => ∃ h₃ tk₃, s₃ = S r h₃ tk₃ ∧ h₂.StaysIn h₃ ∧ R (Free h₂) h₃ v y) NoE (S r h₂ tk)) ∧
      (∀ D h' tk ys (vs : List Value), g.get? D = none → g.StaysIn h' → h'.IsList D (List.toArray ys) → vs.length = n → (∀ j v, vs[j]? = some v → P j v) → All2 (R (FreeBut g D) h') (vs.filter p) ys →
        Q (.ref D) (S r h' tk))) E s₁) E (S r hz tz))
    (hs : ∀ x, foldedSetIterable iter env x = pure x := by intro _; rfl) :
    wpAny (model PG w) A (eval (.ListComp elt [⟨.Name x px, iter, ifs, 0⟩] scope pos) env) Q E (S r hz tz) := by
  rw [eval_ListComp]
  refine wpAny_comprehension_free (use := none) rfl hs hclos hkind hnames (wpAny_mono h (fun xv s₁ h₁ => wpAny_mono h₁ (fun it s₂ h₂ => ?_) fun _ _ e => e) fun _ _ e => e)
  obtain ⟨n, P, g, g₂, V, tk₂, rfl, It, hsz, ht, he, hQ⟩ := h₂
  refine comp_blockC (r := r) (g₂ := g₂) (tk0 := tk₂) (RR := fun acc C => compPost (model PG w) A E none Q acc C) p R hR hcell hkind hx It hsz ht he ?_
  intro D C h' tk m' ys vs hD hC hDC k hn hl hlen hP hF
  refine ⟨m', hn, fun h'' hs'' => ?_⟩
  have lk : LK h' h'' := LK.of_same (fun xs => not_list_of_ns hn) hs''
  exact hQ D h'' tk ys vs hD (fun b o e => hs''.extBut b o (fun q => by rw [q] at e; exact absurd (hC.symm.trans e) (by simp)) (k b o e)) (lk _ _ hl) hlen hP (hF.imp fun _ _ r => hR _ _ _ _ _ _ (fun a xs ok l => ⟨ok, lk _ _ l⟩) r)
end
end Mine

namespace Mine

theorem bbRange : bootBuiltins (Str.ofString "range") = some (.type "range") := by decide +kernel
def bits (n : Nat) : List Nat := (List.range (Builtin.Int.intBits n)).filter n.testBit
def rowF : Nat → Nat → Tree
  | 0, _ => .node []
  | d + 1, n => .node ((bits n).map (rowF d))
def bnd : Nat → Nat
  | 0 => 1
  | d + 1 => 2 ^ bnd d
theorem bnd_le : ∀ {d : Nat}, d ≤ 4 → bnd d ≤ 65536
  | 0, _ => by decide
  | 1, _ => by decide
  | 2, _ => by decide
  | 3, _ => by decide
  | 4, _ => by decide
  | _ + 5, h => by omega
theorem intBits_nat (n : Nat) : Builtin.Int.intBits (n : Int) = if n = 0 then 0 else n.log2 + 1 := by
  unfold Builtin.Int.intBits
  by_cases h : n = 0
  · simp [h]
  · rw [if_neg h]
    have : ((n : Int) == 0) = false := by simpa using h
    rw [this]
    simp
theorem intBits_le {n k : Nat} (h : n < 2 ^ k) : Builtin.Int.intBits (n : Int) ≤ k := by
  rw [intBits_nat]
  split
  · exact Nat.zero_le _
  · rename_i h0
    exact (Nat.log2_lt h0).mpr h
theorem lt_of_testBit {n p k : Nat} (h : n.testBit p = true) (hn : n < 2 ^ k) : p < k := by
  by_cases q : p < k
  · exact q
  · have := Nat.testBit_lt_two_pow (Nat.lt_of_lt_of_le hn (Nat.pow_le_pow_right (by decide) (Nat.le_of_not_lt q)))
    rw [this] at h; cases h

theorem bit_test (n p : Nat) : (Builtin.bitAnd ((n : Int).fdiv (2 ^ (p : Int).toNat)) 1 != 0) = n.testBit p := by
  have e1 : (n : Int).fdiv (2 ^ (p : Int).toNat) = ((n >>> p : Nat) : Int) := by
    rw [Int.toNat_natCast, Nat.shiftRight_eq_div_pow]
    have : (2 : Int) ^ p = ((2 ^ p : Nat) : Int) := by simp
    rw [this, Int.fdiv_eq_ediv_of_nonneg _ (Int.natCast_nonneg _)]
    rfl
  rw [e1, bitAnd_pp (Int.natCast_nonneg _) (by decide), Int.toNat_natCast]
  show _ = (1 &&& (n >>> p) != 0)
  rw [Nat.and_comm]
  simp only [show Int.toNat 1 = 1 from rfl]
  rw [Bool.eq_iff_iff, bne_iff_ne, bne_iff_ne]
  omega

def isBit (n : Nat) : Value → Bool
  | .int p _ => n.testBit p.toNat
  | _ => false

theorem All2.filter {α β : Type} {R : α → β → Prop} {p : α → Bool} {q : β → Bool} (hpq : ∀ a b, R a b → p a = q b) : ∀ {as : List α} {bs : List β}, All2 R as bs → All2 R (as.filter p) (bs.filter q)
  | _, _, .nil => .nil
  | a :: as, b :: bs, .cons x y => by
    rw [List.filter_cons, List.filter_cons, hpq a b x]
    cases q b with
    | true => exact .cons x (All2.filter hpq y)
    | false => exact All2.filter hpq y

section
variable {w : World} {A : Around} {E : Value → Shared → Prop} {r : Shared} {h : Heap} {tk : Nat} {env : Env}
theorem shrS {a : Int} {n : Nat} {t u : Tok} {Q : Value → Shared → Prop} (hQ : Q (.int (a.fdiv (2 ^ (n : Int).toNat)) tk) (S r h (tk + 1))) : wpAny (model PG w) A (binaryOp .RShift (.int a t) (.int n u)) Q E (S r h tk) :=
  rshift_int (s := S r h tk) (by omega) hQ
theorem andS {a b : Int} {t u : Tok} {Q : Value → Shared → Prop} (hQ : Q (.int (Builtin.bitAnd a b) tk) (S r h (tk + 1))) : wpAny (model PG w) A (binaryOp .BitAnd (.int a t) (.int b u)) Q E (S r h tk) :=
  and_int (s := S r h tk) hQ
theorem nmC {M : Model} {x : Str} {pos : Pos} {c : Addr} {v : Value} {Q : Value → Shared → Prop} (hv : h.IsCell c (some v)) (hQ : Q v (S r h tk)) (hc : env.cells.lookup x = some c)
    (hk : env.scope.kind = .function) (hl : env.kindOf x = some .cell) (hd : (x == ("__debug__" : Str)) = false) :
    wpAny M A (eval (.Name x pos) env) Q E (S r h tk) := wpAny_Name (wpAny_loadName_cell (s := S r h tk) hk hl hc hv hQ) hd
theorem testOne {M : Model} {c : Expr} {Q : Bool → Shared → Prop} {s : Shared} (hq : wpAny M A (PySem.isTrue c env (eval c env)) Q E s) : wpAny M A (testsOf [c] env) Q E s := by
  unfold testsOf
  rw [List.forIn_cons]
  refine wpAny_bind ?_
  simp only [if_true]
  refine wpAny_bind (wpAny_mono hq (fun ok s₁ h₁ => wpAny_pure ?_) fun _ _ e => e)
  exact wpAny_pure h₁
end


theorem row_step (w : World) (N n : Nat) (kid : Nat → Tree) (hn : n < 65536) (ih : ∀ p : Nat, n.testBit p = true → ∀ (h : Heap) (t : Tok), Spec w N 67 [.int p t] [] h (fun h' r => TreeAt h' (Free h) (kid p) r)) (h : Heap) (t : Tok) :
    Spec w (N + 2) 67 [.int n t] [] h (fun h' r => TreeAt h' (Free h) (.node ((bits n).map kid)) r) := by
  intro A r tk Q E C hh hd hu ret
  have hrl : recursionLimit = 1000 := rfl
  refine enterC C (by omega) (f := 67) (binds := [(Str.ofString "number", .int n t)]) rfl rfl (BindsTo.of_eq rfl) ?_ (fun L h₁ tk₁ F cell push => ?_)
  · intro n x hx
    rw [List.mem_singleton.mp hx]
    exact .inr ⟨rfl, rfl⟩
  have hc : h₁.IsCell (L + 1) (some (.int n t)) := cell (Str.ofString "number") (L + 1) rfl
  have C₁ := push _ _ F
  refine wpAny_execs_cons (wpAny_Return_some ?_)
  have soft : Soft fun ok h' v y => ∃ p : Nat, (∃ t, v = .int p t) ∧ TreeAt h' ok (kid p) y := fun ok ok' h h' v y f q => let ⟨p, h1, h2⟩ := q; ⟨p, h1, h2.mono f⟩
  refine compC (isBit n) (fun ok h' v y => ∃ p : Nat, (∃ t, v = .int p t) ∧ TreeAt h' ok (kid p) y) soft rfl (by decide) rfl (by decide) rfl ?_
  have hbl : Builtin.Int.intBits (n : Int) ≤ 16 := intBits_le (k := 16) hn
  refine Call_ (nmB C₁ rfl bbRange (by decide) ?_)
  refine Pv.callWith_type1 (spliced_more (MethodCall_ (nmC hc ?_ rfl rfl rfl (by decide))))
  refine getMethod_int_bit_length (callWith_method0 (call_int_bit_length (s := S r h₁ tk₁) (wpAny_pure ?_)))
  refine rangeS (h := h₁) (tk := tk₁ + 1) (r := r) fun h₂ l t₁ u₁ v₁ k₂ hr => ?_
  refine iters_range (fun _ => False) hh hr (by omega) (fun b q => q.elim) fun it g₂ It => ?_
  refine ⟨_, _, h₂, g₂, _, _, rfl, It, ?_, ?_, ?_, ?_⟩
  · rw [sizeLine_eq]; omega
  · rintro Cc i v h₃ m₃ tk₃ ⟨tv, rfl⟩ k₃ hn₃ hx
    have hc₃ : h₃.IsCell (L + 1) (some (.int n t)) := (hc.keeps k₂).keeps k₃
    refine testOne (isTrue_plain (wpAny_BinOp (wpAny_BinOp (nmC hc₃ (nmL hn₃ hx ?_) rfl rfl rfl (by decide)))))
    refine shrS (cInt (andS (truthy_int ?_)))
    exact ⟨bit_test n i, h₃, _, rfl, stays_refl _⟩
  · rintro Cc i v h₃ m₃ tk₃ ⟨tv, rfl⟩ hp k₃ hn₃ hx
    have F₃ : Fr h L h₃ _ := ⟨(F.ns.keeps k₂).keeps k₃, stays_trans F.keep (stays_trans k₂ k₃), F.above⟩
    have C₃ := push _ _ F₃
    refine call1 C₃ rfl rfl (nmL hn₃ hx ⟨C₃.X, ?_⟩)
    refine ih i hp h₃ tv _ _ _ _ _ C₃ hh (by simp only [Around.deeper]; omega) (by simp only [Around.deeper]; omega) ?_
    intro v' h₄ tk₄ k₄ hv'
    exact ⟨h₄, tk₄, rfl, k₄, i, ⟨tv, rfl⟩, hv'⟩
  · intro D' h₄ tk₄ ys vs' hD' k₄ hl' hlen hP hF
    refine ret _ h₄ tk₄ (stays_trans F.keep (stays_trans k₂ k₄)) (treeAt_iff.mpr ⟨D', ys, rfl, ?_, hl', ?_⟩)
    · exact get?_none_of_stays (stays_trans F.keep k₂) hD'
    · refine All2.map_left ?_
      have q0 : All2 (fun v (p : Nat) => ∃ t, v = Value.int p t) vs' (List.range (Builtin.Int.intBits n)) := All2.of_get (by rw [hlen, List.length_range]) fun i a b ha hb => by
        obtain ⟨t', e⟩ := hP i a ha
        have : b = i := by
          have := List.getElem?_eq_some_iff.mp hb
          obtain ⟨_, e⟩ := this
          rw [List.getElem_range] at e
          exact e.symm
        exact ⟨t', by rw [this]; exact e⟩
      have q1 := All2.filter (p := isBit n) (q := n.testBit) (fun a b ⟨t', e⟩ => by rw [e]; rfl) q0
      refine (q1.flip.comp hF).imp fun p y ⟨v, ⟨t', e⟩, p', ⟨t'', e'⟩, z⟩ => ?_
      rw [e] at e'
      have : p = p' := by injection e' with e1 _; exact Int.ofNat.inj e1
      rw [← this] at z
      exact z.mono fun a xs o l => ⟨get?_none_of_stays (stays_trans F.keep k₂) o.1, l⟩

theorem row_spec (w : World) : ∀ d, d ≤ 4 → ∀ n : Nat, n < bnd d → ∀ (h : Heap) (t : Tok), Spec w (2 * d + 2) 67 [.int n t] [] h (fun h' r => TreeAt h' (Free h) (rowF d n) r) := by
  intro d
  induction d with
  | zero =>
    intro _ n hn h t
    have h0 : n = 0 := by have : bnd 0 = 1 := rfl; omega
    subst h0
    exact row_step w 0 0 (fun _ => .node []) (by decide) (fun p hp => by simp at hp) h t
  | succ d ih =>
    intro hd4 n hn h t
    have hb := bnd_le hd4
    exact row_step w (2 * d + 2) n (rowF d) (by omega) (fun p hp h t => ih (by omega) p (lt_of_testBit hp hn) h t) h t
end Mine

namespace Mine

mutual
def Tree.subs : Tree → List Tree
  | .node ks => .node ks :: subsL ks
def subsL : List Tree → List Tree
  | [] => []
  | k :: ks => k.subs ++ subsL ks
end
theorem subsL_append : ∀ a b, subsL (a ++ b) = subsL a ++ subsL b
  | [], b => rfl
  | k :: a, b => by rw [List.cons_append, subsL, subsL, subsL_append a b, List.append_assoc]
mutual
theorem subs_len : ∀ t : Tree, t.subs.length = t.weight
  | .node ks => by rw [Tree.subs, Tree.weight, List.length_cons, subsL_len ks]; omega
theorem subsL_len : ∀ ks : List Tree, (subsL ks).length = weights ks
  | [] => rfl
  | k :: ks => by rw [subsL, weights, List.length_append, subs_len k, subsL_len ks]
end
theorem weights_take (ks : List Tree) (i : Nat) : weights (ks.take i) ≤ weights ks := by
  conv => rhs; rw [← List.take_append_drop i ks, weights_append]
  exact Nat.le_add_right _ _

section
variable {w : World} {A : Around} {E : Value → Shared → Prop} {r : Shared} {h : Heap} {tk : Nat} {env : Env}
theorem newListS {M : Model} {vs : List Value} {Q : Value → Shared → Prop} (hQ : ∀ D h', h.StaysIn h' → h.get? D = none → h'.IsList D vs.toArray → Q (.ref D) (S r h' tk)) (hsz : vs.length ≤ sizeLine) :
    wpAny M A (newList vs) Q E (S r h tk) := wpAny_newObj_type (s := S r h tk) (hQ _ _ (stays_push _ _) (get?_ge (Nat.le_refl _)) (isList_push _ _)) (by show vs.toArray.size ≤ sizeLine; rw [List.size_toArray]; exact hsz)
theorem addL {l b : Addr} {vs ws : List Value} {Q : Value → Shared → Prop} (hl : h.IsList l vs.toArray) (hb : h.IsList b ws.toArray) (hsz : vs.length + ws.length ≤ sizeLine)
    (hQ : ∀ D h', h.StaysIn h' → h.get? D = none → h'.IsList D (vs ++ ws).toArray → Q (.ref D) (S r h' tk)) :
    wpAny (model PG w) A (binaryOp .Add (.ref l) (.ref b)) Q E (S r h tk) := by
  obtain ⟨⟨cls, dd, data, sl⟩, ho, hc, n, hd⟩ := hl
  obtain ⟨⟨cls2, dd2, data2, sl2⟩, ho2, hc2, n2, hd2⟩ := hb
  simp only at hc hd hc2 hd2
  subst hc hd hc2 hd2
  have e : vs.toArray ++ ws.toArray = (vs ++ ws).toArray := by simp
  refine concat_meets (s := S r h tk) ⟨_, ho, rfl⟩ ⟨_, ho2, rfl⟩ noFill_list_add seq_list_add PySem.F.slot_list_add PySem.F.entry_list_add (PySem.F.args_list_add_2 _ _) (list_addW l b vs.toArray ws.toArray n n2 dd dd2 sl sl2 (by simpa using hsz)) ⟨ho, ho2, ?_⟩
  rw [e]
  exact hQ _ _ (stays_push _ _) (get?_ge (Nat.le_refl _)) (isList_push _ _)
end

theorem nodes_spec (w : World) : ∀ t h v, t.weight ≤ 100 → TreeAt h Any t v → Spec w (2 * t.ht + 2) 74 [v] [] h (fun h' r => ∃ a vs, r = .ref a ∧ h'.IsList a (List.toArray vs) ∧ All2 (TreeAt h' Any) t.subs vs) := treeInd fun ks ih h v hw ht => by
  obtain ⟨a, vs, rfl, -, hl, hts⟩ := treeAt_iff.mp ht
  intro A r tk Q E C hh hd hu ret
  have hrl : recursionLimit = 1000 := rfl
  rw [Tree.weight] at hw
  refine enter C (by omega) (f := 74) (binds := [(Str.ofString "node", .ref a)]) rfl rfl (BindsTo.of_eq rfl) rfl (fun L h₁ tk₁ F push => ?_)
  refine wpAny_execs_cons (wpAny_Assign_Name (List_ (spliced_more (nmL F.ns rfl (wpAny_pure ?_)))))
  refine newListS (fun D h₂ k₂ hD hlD => stS (F.ns.keeps k₂) fun h₃ hn₃ hs₃ => ?_) (by rw [sizeLine_eq]; simp)
  have F₂ : Fr h L h₂ _ := ⟨F.ns.keeps k₂, stays_trans F.keep k₂, F.above⟩
  have F₃ := F₂.set hn₃ hs₃
  have lk₃ : LK h₂ h₃ := LK.of_same (fun xs => not_list_of_ns F₂.ns) hs₃
  have hl₃ := LK.of_stays F₃.keep _ _ hl
  refine wpAny_execs_cons (For_walk (W := (· = L)) (J := fun i h m => ∃ a vs, m (Str.ofString "nodes") = some (.ref a) ∧ h.IsList a (List.toArray vs) ∧ All2 (TreeAt h Any) (.node ks :: subsL (ks.take i)) vs) ?hJ ?_)
  case hJ =>
    rintro i h h' m m' ⟨a, vs, e, l, q⟩ lk _ hm
    exact ⟨a, vs, (hm _ (by decide)).trans e, lk _ _ l, q.imp fun _ _ z => z.lk lk⟩
  refine nmL F₃.ns rfl ?_
  refine iters_list (· = L) hh hl₃ (fun q => not_list_of_ns F₃.ns (q ▸ hl₃)) (fun b hb => hb ▸ F₃.ns.lt) fun it g₂ It => ?_
  refine ⟨_, _, _, h₃, g₂, _, rfl, It, rfl, F₃.ns, ⟨D, [.ref a], rfl, lk₃ _ _ hlD, .cons (ht.lk (LK.of_stays F₃.keep)) .nil⟩, ?_, ?_⟩
  · rintro i v h₄ m₄ tk₄ hi hv kp hn₄ hx ⟨b, ws, hw', lb, q⟩
    have F₄ := frKp F₃ kp hn₄ fun b hb => hb ▸ frFree F₃
    obtain ⟨k, hk, hkt⟩ := hts.flip.get hv
    have C₄ := push _ _ F₄
    have hkk : k ∈ ks := List.mem_of_getElem? hk
    have hht := ht_kid hkk
    have hkw := weight_mem hkk
    refine wpAny_execs_cons (wpAny_Assign_Name (wpAny_BinOp (nmL hn₄ hw' ?_)))
    refine call1 C₄ rfl rfl (nmL hn₄ hx ⟨C₄.X, ?_⟩)
    refine ih k hkk h₄ v (by omega) (hkt.lk (LK.of_stays F₄.keep)) _ _ _ _ _ C₄ hh (by simp only [Around.deeper]; omega) (by simp only [Around.deeper]; omega) ?_
    rintro v' h₅ tk₅ k₅ ⟨b', ws', rfl, lb', q'⟩
    have hle : ws.length + ws'.length ≤ sizeLine := by
      have e1 := q.length
      have e2 := q'.length
      rw [List.length_cons, subsL_len] at e1
      rw [subs_len] at e2
      have := weights_take ks i
      rw [sizeLine_eq]; omega
    refine addL (LK.of_stays k₅ _ _ lb) lb' hle fun D₆ h₆ k₆ hD₆ hl₆ => ?_
    refine stS ((hn₄.keeps k₅).keeps k₆) fun h₇ hn₇ hs₇ => ?_
    have lk₇ : LK h₆ h₇ := LK.of_same (fun xs => not_list_of_ns ((hn₄.keeps k₅).keeps k₆)) hs₇
    refine wpAny_execs_nil ⟨.inl rfl, h₇, _, _, rfl, ((Kp.of_stays k₅).trans (Kp.of_stays k₆)).trans (Kp.of_same rfl hs₇), hn₇, D₆, ws ++ ws', rfl, lk₇ _ _ hl₆, ?_⟩
    have e : (Tree.node ks :: subsL (ks.take (i + 1))) = (Tree.node ks :: subsL (ks.take i)) ++ k.subs := by
      rw [take_snoc hk, subsL_append]; simp [subsL]
    rw [e]
    exact (q.imp fun _ _ z => z.lk ((LK.of_stays (stays_trans k₅ k₆)).trans lk₇)).append (q'.imp fun _ _ z => z.lk ((LK.of_stays k₆).trans lk₇))
  · rintro h' tk' m' kp hn' ⟨b, ws, hw', lb, q⟩
    have F' := frKp F₃ kp hn' fun b hb => hb ▸ frFree F₃
    refine wpAny_execs_cons (wpAny_Return_some (nmL hn' hw' ?_))
    refine ret _ h' tk' F'.keep ⟨b, ws, rfl, lb, ?_⟩
    rw [← hts.length, List.take_length] at q
    rw [Tree.subs]
    exact q
end Mine

namespace Mine

/-- an exception's record whose context is none yet -/
def ExcAt (h : Heap) (x : Addr) : Prop := ∃ o vs, h.get? x = some o ∧ o.data = .fields vs ∧ vs[2]? = some .none
theorem ExcAt.at {h h' : Heap} {x : Addr} (q : ExcAt h x) (k : ∀ o, h.get? x = some o → h'.get? x = some o) : ExcAt h' x := let ⟨o, vs, a, b⟩ := q; ⟨o, vs, k _ a, b⟩
/-- what is being handled: nothing, or an exception without a context -/
def Hd (A : Around) (h : Heap) : Prop := A.handled = none ∨ ∃ x, A.handled = some (.ref x) ∧ ExcAt h x
theorem Hd.keeps {A : Around} {h h' : Heap} (q : Hd A h) (k : h.StaysIn h') : Hd A h' := q.imp id fun ⟨x, e, z⟩ => ⟨x, e, z.at fun _ => k _ _⟩

section
variable {w : World} {A : Around} {E : Value → Shared → Prop} {s r : Shared} {h : Heap} {tk : Nat} {env : Env}

theorem entry_unchain : entryFor table "proto.unchain" = some Builtin.«proto.unchain» := entryFor_of_fast (by kernel_rfl)

theorem unchain_none {e x : Addr} {Q : Value → Shared → Prop} (hx : ExcAt s.heap x) (hQ : Q .none s) :
    wpAny (model PG w) A (runValue (.builtin "proto.unchain" ⟨[.ref e, .ref x, .ref x, .bool false], []⟩)) Q E s := by
  obtain ⟨o, vs, ho, hd, h2⟩ := hx
  refine wpAny_runValue (codeAny_builtin entry_unchain ?_)
  show wpAny _ _ (field (.ref x) 2 >>= _) _ _ s
  refine wpAny_bind (wpAny_field ho hd (x := .none) h2 ?_)
  show wpAny _ _ (if ((Value.none : Value) == Value.none) = true then _ else _) _ _ s
  refine wpAny_ite_split (fun _ => wpAny_pure hQ) fun hn => absurd (beq_self_eq_true _) hn

theorem next_end_H {it l x : Addr} {i : Nat} {items : Array Value} {Q : Option Value → Shared → Prop} (hh : A.handled = some (.ref x)) (hx : ExcAt s.heap x) (hxi : x ≠ it)
    (hit : s.heap.IsListIter it l i) (hl : s.heap.IsList l items) (hn : items[i]? = none)
    (hQ : ∀ h', Heap.ExtBut it s.heap h' → Q none { s with heap := h' }) : wpAny (model PG w) A (pyNext (.ref it)) Q E s := by
  obtain ⟨o, ho, hc, hd⟩ := id hit
  obtain ⟨ol, hol, _, nl, hdl⟩ := hl
  unfold pyNext
  refine wpAny_bind (wpAny_attempt (wpAny_callSpecial?_slot (name := Str.ofString "__next__") hit.typeIs slot_listiter_next
    (wpAny_call_entry slot_listiter_next hit.typeIs entry_listiter_next ?_ (args_listiter_next _))))
  show wpAny _ _ (field (.ref it) 0 >>= _) _ _ s
  refine wpAny_bind (wpAny_field ho hd (x := .ref l) rfl ?_)
  show wpAny _ _ (if (Value.ref l == Value.none) = true then _ else _) _ _ s
  rw [if_neg (show ¬ ((Value.ref l == Value.none) = true) from Bool.false_ne_true)]
  show wpAny _ _ (field (.ref it) 1 >>= _) _ _ s
  refine wpAny_bind (wpAny_field ho hd (x := .int i 0) rfl ?_)
  show wpAny _ _ (seqItems? (.ref l) >>= _) _ _ s
  refine wpAny_bind (wpAny_seqItems hol hdl ?_)
  simp only [Int.toNat_natCast, hn]
  refine wpAny_bind (wpAny_rule (wpAny_bind (wpAny_setField ho hd (by simp) ?_)))
  show wpAny _ _ (newExc (.type "StopIteration") [] >>= _) _ _ _
  refine wpAny_bind ?_
  simp only [newExc, newTuple]
  refine wpAny_bind (wpAny_newObj_type ?_ (by size_fits))
  refine wpAny_bind (m := firstArgMember _ _) (wpAny_of_eq (a := Value.none) (by first | rfl | (simp only [firstArgMember]; rfl)) ?_)
  refine wpAny_newObj_type ?_ (by size_fits)
  generalize hH : (Heap.push (s.heap.update it _) _ : Heap) = H1
  have k1 : Heap.ExtBut it s.heap H1 := hH ▸ ((Heap.SameBut.update ..).extBut.push _)
  generalize hO : (Obj.mk (.type "StopIteration") _ _ _ : Obj) = ob
  have hxl : x < s.heap.objs.size := let ⟨_, _, q, _⟩ := hx; Heap.lt_size q
  have hsz : x < H1.objs.size := by
    obtain ⟨o', vs, q, _⟩ := hx
    exact Heap.lt_size (k1 x o' hxi q)
  have hfr : ob.isFreed = false := by rw [← hO]; rfl
  have k2 : Heap.ExtBut it s.heap (H1.push ob) := k1.push _
  have hx2 : ExcAt (H1.push ob) x := hx.at fun o e => k2 x o hxi e
  have hne : Value.ref x ≠ Value.ref H1.objs.size := fun q => by injection q with q; exact Nat.ne_of_lt hsz q
  simp only [raiseNew]
  refine wpAny_bind (wpAny_handled ?_)
  rw [show A.in1.handled = some (.ref x) from hh]
  have hob : (H1.push ob).get? H1.objs.size = some ob := Heap.get?_push_size _ hfr
  obtain ⟨vs, hvs, hsz2⟩ : ∃ vs, ob.data = .fields vs ∧ 2 < vs.size := ⟨_, by rw [← hO], by simp; omega⟩
  have hcl : ob.cls = .type "StopIteration" := by rw [← hO]
  refine wpAny_ite_split (fun _ => ?_) fun hn' => absurd (bne_iff_ne.mpr hne) hn'
  refine wpAny_bind (wpAny_holding (unchain_none hx2 ?_))
  refine wpAny_bind ?_
  simp only [updateField]
  refine wpAny_bind (wpAny_load hob ?_)
  rw [hvs]
  refine wpAny_ite_split (fun _ => ?_) fun q => absurd hsz2 q
  refine wpAny_update hob (wpAny_throw ?_)
  refine wpAny_bind (wpAny_isInstance (T := "StopIteration") (b := true) ⟨_, Heap.get?_update_self _ hob (Obj.isFreed_of_fields (Obj.data_mapFields hvs _)), (Obj.cls_mapFields ..).trans hcl⟩ isSubtype_stop ?_)
  refine wpAny_pure (hQ _ fun b o' hb e => ?_)
  rw [Heap.get?_update_other _ _ (fun q => ?_)]
  · exact k2 b o' hb e
  · rw [← q] at e
    have e1 := k1 _ _ (by rw [q]; exact hb) e
    exact absurd (Heap.lt_size e1) (Nat.lt_irrefl _)

theorem walks_listH (I ax x : Addr) (hne : ax ≠ I) (hxi : x ≠ I) (hh : A.handled = some (.ref x)) (items : Array Value) :
    Walks PG w A I [I, ax, x] [I] items.size (fun i v => items[i]? = some v) (fun i h => h.IsListIter I ax i ∧ h.IsList ax items ∧ ExcAt h x) where
  sub := fun b hb => by simp at hb; simp [hb]
  frame := fun _ _ _ st hk => ⟨st.1.at fun o e => hk I (by simp) o e, st.2.1.at fun o e => hk ax (by simp) o e, st.2.2.at fun o e => hk x (by simp) o e⟩
  item := fun i s Q E hi st hQ => by
    refine wpAny_pyNext_list_item st.1 st.2.1 (x := items[i]) (by simp [hi]) fun h' hit' hs' => ?_
    exact hQ _ h' s.toks (by simp [hi]) ⟨hit', st.2.1.extBut hs'.extBut hne, st.2.2.at fun o e => hs'.extBut _ o hxi e⟩ fun b o hb e => hs'.extBut b o (fun h => hb (by simp [h])) e
  done := fun s Q E st hQ => next_end_H hh st.2.2 hxi st.1 st.2.1 (by simp) fun h' he' => hQ h' s.toks fun b o hb e => he' b o (fun h => hb (by simp [h])) e
  self := fun _ _ _ _ st hQ => wpAny_pyIter_listiter st.1 hQ

theorem iters_listH (W : Addr → Prop) {l : Addr} {vs : List Value} {Q : Value → Shared → Prop} (hh : Hd A h) (hl : h.IsList l vs.toArray) (hW : ¬ W l) (hlt : ∀ b, W b → b < h.objs.size) (hx : ∀ x, A.handled = some (.ref x) → ¬ W x)
    (hQ : ∀ it g₂, Iters w A W h it g₂ vs.length (fun i v => vs[i]? = some v) → Q it (S r g₂ tk)) : wpAny (model PG w) A (pyIter (.ref l)) Q E (S r h tk) := by
  rcases hh with hh | ⟨x, hh, hxx⟩
  · exact iters_list W hh hl hW hlt hQ
  have hll := isList_lt hl
  have hxl : x < h.objs.size := let ⟨_, _, q, _⟩ := hxx; Heap.lt_size q
  refine wpAny_pyIter_list (s := S r h tk) hl (hQ _ _ ?_)
  have Wk := walks_listH (w := w) h.objs.size l x (Nat.ne_of_lt hll) (Nat.ne_of_lt hxl) hh vs.toArray
  have Wk' : Walks PG w A h.objs.size [h.objs.size, l, x] [h.objs.size] vs.length (fun i v => vs[i]? = some v) fun i q => q.IsListIter h.objs.size l i ∧ q.IsList l vs.toArray ∧ ExcAt q x := by simpa using Wk
  refine ⟨h.objs.size, _, _, _, rfl, Wk', ⟨⟨_, Heap.get?_push_size _ rfl, rfl, rfl⟩, LK.of_stays (stays_push _ _) _ _ hl, hxx.at fun _ e => stays_push _ _ _ _ e⟩, stays_push _ _, ?_, ?_, ?_⟩
  · intro b hb
    rw [Heap.size_push]
    rcases List.mem_cons.mp hb with e | hb
    · exact ⟨fun q => Nat.lt_irrefl _ (e ▸ hlt b q), by rw [e]; exact Nat.lt_succ_self _⟩
    · rcases List.mem_cons.mp hb with e | hb
      · rw [e]; exact ⟨hW, Nat.lt_succ_of_lt hll⟩
      · rw [List.mem_singleton.mp hb]; exact ⟨hx x hh, Nat.lt_succ_of_lt hxl⟩
  · intro b hb
    rw [List.mem_singleton.mp hb]
    exact get?_ge (Nat.le_refl _)
  · intro i h' st b hb xs x
    rw [List.mem_singleton.mp hb] at x
    obtain ⟨o, ho, hc, _⟩ := x
    obtain ⟨o', ho', hc', _⟩ := st.1
    rw [ho] at ho'; cases ho'; rw [hc] at hc'; exact absurd hc' (by simp)
end
end Mine

open PySem.SeqAt

namespace Mine

/-- the values of `vs` are compared by `e`, at every heap that keeps the lists of `h` -/
def Eqs (e : Value → Value → Bool) (vs : List Value) (h : Heap) : Prop :=
  ∀ (A : Around) (s : Shared), LK h s.heap → A.units + 40 < cLine → ∀ y ∈ vs, ∀ x ∈ vs, EqAt A s y x (e y x)
theorem Eqs.keeps {e : Value → Value → Bool} {vs : List Value} {h h' : Heap} (q : Eqs e vs h) (k : LK h h') : Eqs e vs h' := fun A s lk hu y hy x hx => q A s (k.trans lk) hu y hy x hx
theorem Eqs.sub {e : Value → Value → Bool} {vs ws : List Value} {h : Heap} (q : Eqs e vs h) (k : ∀ v ∈ ws, v ∈ vs) : Eqs e ws h := fun A s lk hu y hy x hx => q A s lk hu y (k y hy) x (k x hx)

def dedStep (e : Value → Value → Bool) (acc : List Value) (t : Value) : List Value := if acc.any (fun y => e y t) then acc else acc ++ [t]
def ded (e : Value → Value → Bool) (vs : List Value) : List Value := vs.foldl (dedStep e) []
theorem ded_snoc (e : Value → Value → Bool) (vs : List Value) (t : Value) : ded e (vs ++ [t]) = dedStep e (ded e vs) t := by
  unfold ded; rw [List.foldl_append]; rfl
theorem ded_sub (e : Value → Value → Bool) (vs : List Value) : ∀ v ∈ ded e vs, v ∈ vs := by
  have gen : ∀ (vs acc : List Value), ∀ v ∈ vs.foldl (dedStep e) acc, v ∈ acc ∨ v ∈ vs := by
    intro vs
    induction vs with
    | nil => intro acc v hv; exact .inl hv
    | cons t vs ih =>
      intro acc v hv
      rcases ih _ v hv with h | h
      · unfold dedStep at h
        split at h
        · exact .inl h
        · rcases List.mem_append.mp h with h | h
          · exact .inl h
          · rw [List.mem_singleton.mp h]; exact .inr (.head _)
      · exact .inr (.tail _ h)
  intro v hv
  rcases gen vs [] v hv with h | h
  · cases h
  · exact h
theorem ded_len (e : Value → Value → Bool) (vs : List Value) : (ded e vs).length ≤ vs.length := by
  have gen : ∀ (vs acc : List Value), (vs.foldl (dedStep e) acc).length ≤ acc.length + vs.length := by
    intro vs
    induction vs with
    | nil => intro acc; simp
    | cons t vs ih =>
      intro acc
      have h1 := ih (dedStep e acc t)
      have h2 : (dedStep e acc t).length ≤ acc.length + 1 := by unfold dedStep; split <;> simp
      rw [List.foldl_cons, List.length_cons]; omega
  have := gen vs []
  simpa [ded] using this

def SpecH (w : World) (n : Nat) (f : Addr) (args : List Value) (kw : List (Str × Value)) (h : Heap) (Out : Heap → Value → Prop) : Prop :=
  ∀ (A : Around) (r : Shared) (tk : Nat) (Q : Value → Shared → Prop) (E : Value → Shared → Prop), Cx w A h → Hd A h → A.depth + n < 600 → A.units + 8 * n < 9000 →
    (∀ v h' tk', h.StaysIn h' → Out h' v → Q v (S r h' tk')) → wpAny (model PG w) A (call (.ref f) args kw) Q E (S r h tk)
theorem SpecH.spec {w : World} {n : Nat} {f : Addr} {args : List Value} {kw : List (Str × Value)} {h : Heap} {Out : Heap → Value → Prop} (q : SpecH w n f args kw h Out) : Spec w n f args kw h Out :=
  fun A r tk Q E C hh hd hu ret => q A r tk Q E C (.inl hh) hd hu ret

section
variable {w : World} {A : Around} {E : Value → Shared → Prop} {r : Shared} {h : Heap} {tk : Nat} {env : Env}
theorem newListP {M : Model} {vs : List Value} {Q : Value → Shared → Prop} (hQ : ∀ D h', h.StaysIn h' → h.get? D = none → h'.PlainList D vs.toArray → Q (.ref D) (S r h' tk)) (hsz : vs.length ≤ sizeLine) :
    wpAny M A (newList vs) Q E (S r h tk) := wpAny_newObj_type (s := S r h tk) (hQ _ _ (stays_push _ _) (get?_ge (Nat.le_refl _)) ⟨0, Heap.get?_push_size _ rfl⟩) (by show vs.toArray.size ≤ sizeLine; rw [List.size_toArray]; exact hsz)

/-- the statement `name.append(arg)` on a plain list -/
theorem exec_append {x : Str} {p1 p2 p3 p4 : Pos} {arg : Expr} {D : Addr} {ys : List Value} {m : Str → Option Value} {pl : Sem Bool} {Q : Flow → Shared → Prop}
    (hn : h.Ns env.locals m) (hx : m x = some (.ref D)) (hD : h.PlainList D ys.toArray) (hsz : ys.length ≤ 100000)
    (ha : wpAny (model PG w) A (eval arg env) (fun v s₁ => ∃ h₁ tk₁, s₁ = S r h₁ tk₁ ∧ h.StaysIn h₁ ∧ ∀ h', Heap.SameBut D h₁ h' → h'.PlainList D (List.toArray (ys ++ [v])) → Q .next (S r h' tk₁)) E (S r h tk))
    (hs : starEach [arg] env = [(false, eval arg env)] := by rfl)
    (hc : ∀ (Q : Value → Shared → Prop) (s : Shared), wpAny (model PG w) A (eval (.Name x p1) env) (fun ov s₁ => wpAny (model PG w) A (getMethod ov (Str.ofString "append") pl)
        (fun fx s₂ => wpAny (model PG w) A (callWith p3 fx.1 fx.2 (backTo p3 (starEach [arg] env)) []) Q E s₂) E s₁) E s → wpAny (model PG w) A (eval (.Call (.Attribute (.Name x p1) (Str.ofString "append") p2) [arg] [] p3) env) Q E s := by intro Q s h; exact MethodCall_ h)
    (hk : env.scope.kind = .function := by rfl) (hl : env.kindOf x = some .local := by rfl) (hd : (x == ("__debug__" : Str)) = false := by decide)
    (hi : interactive env = false := by rfl)
    (hw : swapsWith (.Call (.Attribute (.Name x p1) (Str.ofString "append") p2) [arg] [] p3) none p4.line env = pure false := by rfl) :
    wpAny (model PG w) A (exec (.Expr (.Call (.Attribute (.Name x p1) (Str.ofString "append") p2) [arg] [] p3) p4) env) Q E (S r h tk) := by
  refine wpAny_Expr_any (hc _ _ (nmL hn hx ?_ hk hl hd)) hi hw
  obtain ⟨n, ho⟩ := hD
  refine getMethod_list_append (s := S r h tk) ho rfl rfl ?_
  refine callWith_method1 (spliced_more ?_ (by rw [hs]; rfl)) (by rw [hs]; rfl) (by rfl)
  refine wpAny_mono ha (fun v s₁ h₁ => wpAny_pure ?_) fun _ _ e => e
  obtain ⟨h₁, tk₁, rfl, k₁, hQ⟩ := h₁
  refine wpAny_list_append_plain (s := S r h₁ tk₁) (items := ys.toArray) ⟨n, k₁ _ _ ho⟩ (fun h' hl' hs' => ?_) (by rw [List.size_toArray, sizeLine_eq]; omega)
  exact hQ h' hs' (by simpa using hl')
end

theorem dedup_spec (w : World) (e : Value → Value → Bool) (vs : List Value) (h : Heap) (l : Addr) (hl : h.IsList l vs.toArray) (hsz : vs.length ≤ 1000) (heq : Eqs e vs h) :
    SpecH w 2 29 [.ref l] [] h (fun h' r => ∃ D, r = .ref D ∧ h.get? D = none ∧ h'.PlainList D (List.toArray (ded e vs))) := by
  intro A r tk Q E C hh hd hu ret
  have hrl : recursionLimit = 1000 := rfl
  refine enter C (by omega) (f := 29) (binds := [(Str.ofString "unhashable_params", .ref l)]) rfl rfl (BindsTo.of_eq rfl) rfl (fun L h₁ tk₁ F push => ?_)
  refine wpAny_execs_cons (wpAny_Assign_Name (List_ (wpAny_pure ?_)))
  refine newListP (fun D h₂ k₂ hD hlD => stS (F.ns.keeps k₂) fun h₃ hn₃ hs₃ => ?_) (Nat.zero_le _)
  have F₂ : Fr h L h₂ _ := ⟨F.ns.keeps k₂, stays_trans F.keep k₂, F.above⟩
  have F₃ := F₂.set hn₃ hs₃
  have pk₃ : PK h₂ h₃ := PK.of_same (fun xs => not_list_of_ns F₂.ns) hs₃
  have hl₃ := LK.of_stays F₃.keep _ _ hl
  have hhD : h.get? D = none := get?_none_of_stays F.keep hD
  have hlD' : l ≠ D := fun q => isList_some hl (q ▸ hhD)
  have hDL : D ≠ L := fun q => not_list_of_ns F₃.ns (q ▸ (pk₃ _ _ hlD).isList)
  refine wpAny_execs_cons (For_walk (W := fun b => b = L ∨ b = D) (J := fun i h m => m (Str.ofString "new_unhashable") = some (.ref D) ∧ h.PlainList D (List.toArray (ded e (vs.take i)))) ?hJ ?_)
  case hJ =>
    rintro i h h' m m' ⟨e, l⟩ _ pk hm
    exact ⟨(hm _ (by decide)).trans e, pk _ _ l⟩
  refine nmL F₃.ns rfl ?_
  have hWh : ∀ b, (b = L ∨ b = D) → h.get? b = none := fun b hb => hb.elim (fun q => q ▸ frFree F₃) fun q => q ▸ hhD
  refine iters_listH (fun b => b = L ∨ b = D) (hh.keeps F₃.keep : Hd (A.deeper _) h₃) hl₃ (fun q => isList_some hl (hWh _ q)) (fun b hb => hb.elim (fun q => q ▸ F₃.ns.lt) fun q => q ▸ isList_lt (pk₃ _ _ hlD).isList) (fun x hx q => ?_) fun it g₂ It => ?_
  · rcases hh with hh | ⟨x', hh, hx'⟩
    · have hx2 : A.handled = some (.ref x) := hx
      rw [hh] at hx2; cases hx2
    · have hx2 : A.handled = some (.ref x) := hx
      rw [hh] at hx2; cases hx2
      obtain ⟨o, _, ho, _⟩ := hx'
      rw [hWh _ q] at ho; cases ho
  refine ⟨_, _, _, h₃, g₂, _, rfl, It, .inl rfl, F₃.ns, ⟨rfl, pk₃ _ _ hlD⟩, ?_, ?_⟩
  · rintro i v h₄ m₄ tk₄ hi hv kp hn₄ hx ⟨hm, hp⟩
    have F₄ := frKp F₃ kp hn₄ hWh
    have hmem : v ∈ vs := List.mem_of_getElem? hv
    have hlen : (ded e (vs.take i)).length ≤ 1000 := Nat.le_trans (ded_len _ _) (by rw [List.length_take]; omega)
    have hcl : cLine = 9900 := rfl
    refine wpAny_execs_cons (wpAny_If (wpAny_isTrue_Compare1 (nmL hn₄ hx (nmL hn₄ hm ?_))))
    refine notIn_listAt (s := S r h₄ tk₄) (fun y => e y v) hp.isList (fun y hy => ?_) (wpAny_truthy_bool ?_)
    · refine heq _ (S r h₄ tk₄) (LK.of_stays F₄.keep) (by simp only [Around.in1, Around.deeper]; omega) y ?_ v hmem
      have := ded_sub e _ y (by simpa using hy)
      exact List.mem_of_mem_take this
    have eany : (ded e (vs.take i)).toArray.any (fun y => e y v) = (ded e (vs.take i)).any fun y => e y v := by simp
    rw [eany]
    have enext : ded e (vs.take (i + 1)) = dedStep e (ded e (vs.take i)) v := by
      have hv' : vs[i]? = some v := hv
      rw [take_snoc hv', ded_snoc]
    cases hany : (ded e (vs.take i)).any fun y => e y v with
    | true =>
      simp only [Bool.not_true, Bool.false_eq_true, if_false]
      refine wpAny_execs_nil (wpAny_execs_nil ⟨.inl rfl, h₄, _, _, rfl, Kp.refl _ _, hn₄, hm, ?_⟩)
      rw [enext, dedStep, hany]
      exact hp
    | false =>
      simp only [Bool.not_false, if_true]
      refine wpAny_execs_cons (exec_append hn₄ hm hp (by omega) (nmL hn₄ hx ⟨h₄, _, rfl, stays_refl _, fun h₅ hs₅ hp₅ => ?_⟩))
      refine wpAny_execs_nil (wpAny_execs_nil ⟨.inl rfl, h₅, _, _, rfl, Kp.of_same (.inr rfl) hs₅, hn₄.sameBut hs₅ (Ne.symm hDL), hm, ?_⟩)
      rw [enext, dedStep, hany]
      exact hp₅
  · rintro h' tk' m' kp hn' ⟨hm, hp⟩
    have F' := frKp F₃ kp hn' hWh
    refine wpAny_execs_cons (wpAny_Return_some (nmL hn' hm ?_))
    refine ret _ h' tk' F'.keep ⟨D, rfl, hhD, ?_⟩
    rw [List.take_length] at hp
    exact hp
end Mine

namespace Mine

noncomputable def same {α : Type} (a b : α) : Bool := @decide (a = b) (Classical.propDecidable _)
theorem same_true {α : Type} {a b : α} : same a b = true ↔ a = b := by unfold same; exact @decide_eq_true_iff _ (Classical.propDecidable _)
theorem same_false {α : Type} {a b : α} : same a b = false ↔ a ≠ b := by
  cases h : same a b with
  | true => simp [same_true.mp h]
  | false => simp; intro e; rw [same_true.mpr e] at h; cases h
theorem same_self {α : Type} (a : α) : same a a = true := same_true.mpr rfl

theorem all_range_same : ∀ {as bs : List Tree}, as.length = bs.length → ((List.range as.length).all fun j => same as[j]? bs[j]?) = same as bs := by
  intro as bs hl
  rw [Bool.eq_iff_iff, List.all_eq_true, same_true]
  constructor
  · intro h
    apply List.ext_getElem?
    intro i
    by_cases hi : i < as.length
    · exact same_true.mp (h i (List.mem_range.mpr hi))
    · rw [List.getElem?_eq_none (by omega), List.getElem?_eq_none (by omega)]
  · intro e i _
    rw [e]; exact same_self _

theorem tree_eqAt {h : Heap} : ∀ ty, ∀ (tx : Tree) (y x : Value) (A : Around) (s : Shared), TreeAt h Any ty y → TreeAt h Any tx x → LK h s.heap → A.units + ty.ht + 3 < cLine → EqAt A s y x (same ty tx) := treeInd fun ks ih tx y x A s hy hx lk hu => by
  cases tx with
  | node ks' =>
    obtain ⟨a, vs, rfl, _, la, qa⟩ := treeAt_iff.mp hy
    obtain ⟨b, ws, rfl, _, lb, qb⟩ := treeAt_iff.mp hx
    by_cases hab : a = b
    · subst hab
      rw [treeAt_inj _ hy hx, same_self]
      exact EqAt.same _
    · refine EqAt.of_refs hab ?_
      by_cases hlen : vs.length = ws.length
      · have hk : ks.length = ks'.length := by rw [qa.length, qb.length, hlen]
        have e1 : same (Tree.node ks) (Tree.node ks') = ((List.range vs.toArray.size).all fun j => same ks[j]? ks'[j]?) := by
          have : vs.toArray.size = ks.length := by rw [List.size_toArray, qa.length]
          rw [this, all_range_same hk]
          rw [Bool.eq_iff_iff, same_true, same_true]
          constructor
          · intro q; injection q
          · intro q; rw [q]
        rw [e1]
        refine RcAt.lists (lk _ _ la) (lk _ _ lb) (by simpa using hlen) (by omega) fun j h1 h2 => ?_
        have h1' : j < vs.length := by simpa using h1
        have h2' : j < ws.length := by simpa using h2
        obtain ⟨k, hkk, hkv⟩ := qa.flip.get (List.getElem?_eq_getElem h1')
        obtain ⟨k', hkk', hkv'⟩ := qb.flip.get (List.getElem?_eq_getElem h2')
        have e2 : same ks[j]? ks'[j]? = same k k' := by
          rw [hkk, hkk', Bool.eq_iff_iff, same_true, same_true]
          simp
        show EqAt A.in1 s vs.toArray[j] ws.toArray[j] _
        rw [e2]
        have hmem : k ∈ ks := List.mem_of_getElem? hkk
        have hht := ht_kid hmem
        have r := ih k hmem k' _ _ A.in1 s hkv hkv' lk (by simp only [Around.in1]; omega)
        simpa using r
      · have e1 : same (Tree.node ks) (Tree.node ks') = false := same_false.mpr fun q => hlen (by
          injection q with q
          rw [← qa.length, ← qb.length, q])
        rw [e1]
        exact RcAt.lists_lengths (lk _ _ la) (lk _ _ lb) (by simpa using hlen) (by omega)

noncomputable def eT (h : Heap) (y x : Value) : Bool := @decide (∃ t, TreeAt h Any t y ∧ TreeAt h Any t x) (Classical.propDecidable _)
theorem eT_same {h : Heap} {ty tx : Tree} {y x : Value} (hy : TreeAt h Any ty y) (hx : TreeAt h Any tx x) : eT h y x = same ty tx := by
  rw [Bool.eq_iff_iff, same_true]
  unfold eT
  rw [@decide_eq_true_iff _ (Classical.propDecidable _)]
  constructor
  · rintro ⟨t, h1, h2⟩
    rw [treeAt_inj _ hy h1, treeAt_inj _ hx h2]
  · rintro rfl
    exact ⟨_, hy, hx⟩
theorem eqs_trees {h : Heap} {ts : List Tree} {vs : List Value} (q : All2 (TreeAt h Any) ts vs) (hb : ∀ t ∈ ts, t.ht ≤ 10) : Eqs (eT h) vs h := fun A s lk hu y hy x hx => by
  obtain ⟨ty, hty, hy'⟩ := q.flip.mem_left hy
  obtain ⟨tx, htx, hx'⟩ := q.flip.mem_left hx
  rw [eT_same hy' hx']
  have := hb ty hty
  exact tree_eqAt ty tx y x A s hy' hx' lk (by omega)

def eI (y x : Value) : Bool := match x with
  | .int k _ => isInt k y
  | _ => false
abbrev IntV (n : Int) (v : Value) : Prop := ∃ t, v = .int n t
theorem eI_same {a b : Int} {y x : Value} (hy : IntV a y) (hx : IntV b x) : eI y x = same a b := by
  obtain ⟨t, rfl⟩ := hy
  obtain ⟨u, rfl⟩ := hx
  rw [Bool.eq_iff_iff, same_true]
  simp [eI, isInt]
theorem intsAre_all2 : ∀ {ns : List Int} {vs : List Value}, All2 IntV ns vs → IntsAre vs ns
  | _, _, .nil => .nil
  | _, _, .cons ⟨t, e⟩ q => by subst e; exact .cons _ t (intsAre_all2 q)
theorem all2_intsAre : ∀ {ns : List Int} {vs : List Value}, IntsAre vs ns → All2 IntV ns vs
  | _, _, .nil => .nil
  | _, _, .cons n t q => .cons ⟨t, rfl⟩ (all2_intsAre q)
theorem eqs_ints {h : Heap} {ns : List Int} {vs : List Value} (q : All2 IntV ns vs) : Eqs eI vs h := fun A s lk hu y hy x hx => by
  obtain ⟨n, hn, t, rfl⟩ := q.flip.mem_left hx
  exact (eq_isInt n t (intsAre_all2 q) y hy).at A s

noncomputable def dedAStep {α : Type} (acc : List α) (a : α) : List α := if acc.any (fun b => same b a) then acc else acc ++ [a]
noncomputable def dedA {α : Type} (l : List α) : List α := l.foldl dedAStep []
theorem all2_ded {α : Type} {R : α → Value → Prop} {e : Value → Value → Bool} (he : ∀ a b y x, R a y → R b x → e y x = same a b) {as : List α} {vs : List Value} (q : All2 R as vs) : All2 R (dedA as) (ded e vs) := by
  have any_eq : ∀ {acc : List α} {ac : List Value} {a : α} {v : Value}, All2 R acc ac → R a v → (ac.any fun y => e y v) = acc.any fun b => same b a := by
    intro acc ac a v p r
    induction p with
    | nil => rfl
    | cons x _ ih => rw [List.any_cons, List.any_cons, ih, he _ _ _ _ x r]
  have gen : ∀ {as : List α} {vs : List Value}, All2 R as vs → ∀ (acc : List α) (ac : List Value), All2 R acc ac → All2 R (as.foldl dedAStep acc) (vs.foldl (dedStep e) ac) := by
    intro as vs p
    induction p with
    | nil => intro acc ac r; exact r
    | cons x _ ih =>
      intro acc ac r
      refine ih _ _ ?_
      unfold dedAStep dedStep
      rw [any_eq r x]
      split
      · exact r
      · exact r.snoc x
  exact gen q [] [] .nil
theorem mem_dedA {α : Type} (l : List α) (a : α) : a ∈ dedA l ↔ a ∈ l := by
  have gen : ∀ (l acc : List α), a ∈ l.foldl dedAStep acc ↔ a ∈ acc ∨ a ∈ l := by
    intro l
    induction l with
    | nil => intro acc; simp
    | cons b l ih =>
      intro acc
      rw [List.foldl_cons, ih, List.mem_cons]
      unfold dedAStep
      split
      · rename_i h
        obtain ⟨c, hc, hs⟩ := List.any_eq_true.mp h
        rw [same_true] at hs
        subst hs
        constructor
        · rintro (h | h)
          · exact .inl h
          · exact .inr (.inr h)
        · rintro (h | rfl | h)
          · exact .inl h
          · exact .inl hc
          · exact .inr h
      · rw [List.mem_append, List.mem_singleton, or_assoc]
  have := gen l []
  simpa [dedA] using this
theorem nodup_dedA {α : Type} (l : List α) : (dedA l).Nodup := by
  have gen : ∀ (l acc : List α), acc.Nodup → (l.foldl dedAStep acc).Nodup := by
    intro l
    induction l with
    | nil => intro acc h; exact h
    | cons b l ih =>
      intro acc h
      refine ih _ ?_
      unfold dedAStep
      split
      · exact h
      · rename_i hb
        rw [List.nodup_append]
        refine ⟨h, by simp, fun x hx y hy q => ?_⟩
        rw [List.mem_singleton.mp hy] at q
        exact hb (List.any_eq_true.mpr ⟨x, hx, same_true.mpr q⟩)
  exact gen l [] List.nodup_nil
end Mine

namespace Mine

/-! ### up to the slots of namespaces: what a noted frame leaves -/
def NotDict (o : Obj) : Prop := ∀ es n, o.data ≠ .dict es n
def UpW (W : Addr → Prop) (base h h' : Heap) : Prop :=
  (∀ b o, ¬ W b → h.get? b = some o → ∃ sl, h'.get? b = some { o with slots := sl } ∧ (NotDict o → sl = o.slots)) ∧ base.StaysIn h'
abbrev Nope : Addr → Prop := fun _ => False
abbrev Up (base h h' : Heap) : Prop := UpW Nope base h h'

theorem UpW.refl {W : Addr → Prop} {base h : Heap} (k : base.StaysIn h) : UpW W base h h := ⟨fun b o _ e => ⟨o.slots, e, fun _ => rfl⟩, k⟩
theorem UpW.trans {W : Addr → Prop} {base a b c : Heap} (x : UpW W base a b) (y : UpW W base b c) : UpW W base a c :=
  ⟨fun d o n e => let ⟨sl, e1, f1⟩ := x.1 d o n e; let ⟨sl2, e2, f2⟩ := y.1 d _ n e1; ⟨sl2, e2, fun q => (f2 q).trans (f1 q)⟩, y.2⟩
theorem UpW.of_kp {W : Addr → Prop} {base h h' : Heap} (k : Kp W h h') (hb : base.StaysIn h) (hW : ∀ b, W b → base.get? b = none) : UpW W base h h' :=
  ⟨fun b o n e => ⟨o.slots, k b o n e, fun _ => rfl⟩, fun b o e => k b o (fun q => by rw [hW b q] at e; cases e) (hb b o e)⟩
theorem UpW.of_stays {W : Addr → Prop} {base h h' : Heap} (k : h.StaysIn h') (hb : base.StaysIn h) : UpW W base h h' :=
  ⟨fun b o n e => ⟨o.slots, k b o e, fun _ => rfl⟩, stays_trans hb k⟩
theorem UpW.mono {W W' : Addr → Prop} {base h h' : Heap} (x : UpW W base h h') (f : ∀ b, W b → W' b) : UpW W' base h h' := ⟨fun b o n e => x.1 b o (fun q => n (f b q)) e, x.2⟩
theorem UpW.up {W : Addr → Prop} {base h h' : Heap} (x : Up base h h') : UpW W base h h' := x.mono fun _ q => q.elim
theorem UpW.of_same {W : Addr → Prop} {L : Addr} {base h h' : Heap} (hW : W L) (k : Heap.SameBut L h h') (hb : base.StaysIn h) (hL : base.get? L = none) : UpW W base h h' :=
  ⟨fun b o n e => ⟨o.slots, k.extBut b o (fun q => n (q ▸ hW)) e, fun _ => rfl⟩, fun b o e => k.extBut b o (fun q => by rw [q, hL] at e; cases e) (hb b o e)⟩
/-- writes at places that were free before -/
theorem UpW.up_fresh {W : Addr → Prop} {base h₀ h h' : Heap} (x : UpW W base h h') (k : Up base h₀ h) (hW : ∀ b, W b → h₀.get? b = none) : Up base h₀ h' :=
  ⟨fun b o n e => by
    obtain ⟨sl, e1, f1⟩ := k.1 b o n e
    obtain ⟨sl2, e2, f2⟩ := x.1 b _ (fun q => by rw [hW b q] at e; cases e) e1
    exact ⟨sl2, e2, fun q => (f2 q).trans (f1 q)⟩, x.2⟩
theorem UpW.get {W : Addr → Prop} {base h h' : Heap} (x : UpW W base h h') {b : Addr} {o : Obj} (n : ¬ W b) (e : h.get? b = some o) (hd : NotDict o) : h'.get? b = some o := by
  obtain ⟨sl, e1, f1⟩ := x.1 b o n e
  rw [f1 hd] at e1
  exact e1
theorem UpW.ns {W : Addr → Prop} {base h h' : Heap} (x : UpW W base h h') {L : Addr} {m : Str → Option Value} (hn : h.Ns L m) (n : ¬ W L) : h'.Ns L m := by
  obtain ⟨o, es, ep, ho, hd, r⟩ := hn
  obtain ⟨sl, hs, _⟩ := x.1 L o n ho
  exact ⟨_, es, ep, hs, hd, r⟩
theorem UpW.lk {W : Addr → Prop} {base h h' : Heap} (x : UpW W base h h') (hW : ∀ b, W b → ∀ xs, ¬ h.IsList b xs) : LK h h' := fun a xs l => by
  obtain ⟨o, ho, r⟩ := id l
  obtain ⟨c, n, hd⟩ := id r
  exact ⟨o, x.get (fun q => hW a q xs l) ho (fun es n' q => by rw [hd] at q; cases q), r⟩
theorem UpW.pk {W : Addr → Prop} {base h h' : Heap} (x : UpW W base h h') (hW : ∀ b, W b → ∀ xs, ¬ h.IsList b xs) : PK h h' := fun a xs l => by
  obtain ⟨n, ho⟩ := id l
  exact ⟨n, x.get (fun q => hW a q xs l.isList) ho (fun es n' q => by cases q)⟩
theorem UpW.lk0 {base h h' : Heap} (x : Up base h h') : LK h h' := x.lk fun _ q => q.elim
theorem UpW.pk0 {base h h' : Heap} (x : Up base h h') : PK h h' := x.pk fun _ q => q.elim
theorem UpW.free {base h h' : Heap} (x : Up base h h') {b : Addr} (e : h'.get? b = none) : h.get? b = none := by
  cases q : h.get? b with
  | none => rfl
  | some o => obtain ⟨sl, e1, _⟩ := x.1 b o (fun q => q) q; rw [e] at e1; cases e1

def FF (h base : Heap) (outer : List Env) : Prop := ∀ env ∈ outer, env.scope.kind ≠ .module ∧ ∃ L m, env.frame = some L ∧ base.get? L = none ∧ h.Ns L m
theorem FF.fun {h base : Heap} : ∀ {outer : List Env}, FF h base outer → h.FunFrames base outer
  | [], _ => trivial
  | env :: outer, ff => by
    obtain ⟨hk, L, m, hf, hb, hn⟩ := ff env (.head _)
    obtain ⟨o, es, ep, ho, hd, _⟩ := hn
    exact ⟨hk, ⟨L, o, hf, hb, ho, fun vs q => by rw [hd] at q; cases q⟩, FF.fun fun e he => ff e (.tail _ he)⟩
theorem FF.up {h h' base : Heap} {outer : List Env} (ff : FF h base outer) (x : Up base h h') : FF h' base outer := fun e he => by
  obtain ⟨hk, L, m, hf, hb, hn⟩ := ff e he
  exact ⟨hk, L, m, hf, hb, x.ns hn fun q => q⟩

structure CxX (w : World) (A : Around) (base h : Heap) : Prop where
  X : (KP w).In base
  T : ∃ p loose mg mb, TopRead p loose mg mb base
  K : base.StaysIn h
  F : ∃ outer, A.frames = some outer ∧ FF h base outer
theorem CxX.cx {w : World} {A : Around} {base h : Heap} (C : CxX w A base h) : Cx w A h where
  X := C.X.keeps C.K
  T := let ⟨p, l, mg, mb, t⟩ := C.T; ⟨p, l, mg, mb, t.keeps C.K⟩
  B := let ⟨outer, hf, ff⟩ := C.F; ⟨base, outer, hf, C.K, ff.fun⟩
theorem CxX.up {w : World} {A : Around} {base h h' : Heap} (C : CxX w A base h) (x : Up base h h') : CxX w A base h' where
  X := C.X
  T := C.T
  K := x.2
  F := let ⟨outer, hf, ff⟩ := C.F; ⟨outer, hf, ff.up x⟩

/-- a frame over the heap at its entry -/
structure FrX (base h₀ : Heap) (L : Addr) (h : Heap) (m : Str → Option Value) : Prop where
  ns : h.Ns L m
  up : Up base h₀ h
  free : h₀.get? L = none
theorem FrX.of_fr {base h₀ h : Heap} {L : Addr} {m : Str → Option Value} (F : Fr h₀ L h m) (hb : base.StaysIn h₀) : FrX base h₀ L h m := ⟨F.ns, UpW.of_stays F.keep hb, frFree F⟩
theorem FrX.base {base h₀ h : Heap} {L : Addr} {m : Str → Option Value} (F : FrX base h₀ L h m) (hb : base.StaysIn h₀) : base.get? L = none := get?_none_of_stays hb F.free
theorem FrX.kp {base h₀ h h' : Heap} {L : Addr} {m m' : Str → Option Value} {W : Addr → Prop} (F : FrX base h₀ L h m) (k : UpW W base h h') (hn : h'.Ns L m') (hW : ∀ b, W b → h₀.get? b = none) : FrX base h₀ L h' m' :=
  ⟨hn, k.up_fresh F.up hW, F.free⟩
theorem FrX.set {base h₀ h h' : Heap} {L : Addr} {m m' : Str → Option Value} (F : FrX base h₀ L h m) (hn : h'.Ns L m') (hs : Heap.SameBut L h h') (hb : base.StaysIn h₀) : FrX base h₀ L h' m' :=
  F.kp (W := (· = L)) (UpW.of_same rfl hs F.up.2 (F.base hb)) hn fun b q => q ▸ F.free
theorem FrX.step {base h₀ h h' : Heap} {L : Addr} {m : Str → Option Value} (F : FrX base h₀ L h m) (k : Up base h h') : FrX base h₀ L h' m := ⟨k.ns F.ns fun q => q, F.up.trans k, F.free⟩
theorem FrX.stays {base h₀ h h' : Heap} {L : Addr} {m : Str → Option Value} (F : FrX base h₀ L h m) (k : h.StaysIn h') : FrX base h₀ L h' m := F.step (UpW.of_stays k F.up.2)
theorem CxX.push {w : World} {A : Around} {base h₀ h : Heap} {L a : Addr} {m : Str → Option Value} {name : Str} {scope : Scope} {cd : Value} (C : CxX w A base h₀) (F : FrX base h₀ L h m)
    (hk : scope.kind = .function := by rfl) : CxX w (A.deeper (envOf name scope L a cd)) base h where
  X := C.X
  T := C.T
  K := F.up.2
  F := by
    obtain ⟨outer, hf, ff⟩ := C.F
    refine ⟨envOf name scope L a cd :: outer, Around.frames_deeper hf, fun e he => ?_⟩
    rcases List.mem_cons.mp he with rfl | he
    · exact ⟨by show scope.kind ≠ .module; rw [hk]; decide, L, m, rfl, F.base C.K, F.ns⟩
    · exact ff.up F.up e he

def SpecX (w : World) (n : Nat) (f : Addr) (args : List Value) (kw : List (Str × Value)) (base h : Heap) (Out : Heap → Value → Prop) : Prop :=
  ∀ (A : Around) (r : Shared) (tk : Nat) (Q : Value → Shared → Prop) (E : Value → Shared → Prop), CxX w A base h → A.handled = none → A.depth + n < 600 → A.units + 8 * n < 9000 →
    (∀ v h' tk', Up base h h' → Out h' v → Q v (S r h' tk')) → wpAny (model PG w) A (call (.ref f) args kw) Q E (S r h tk)
theorem Spec.x {w : World} {n : Nat} {f : Addr} {args : List Value} {kw : List (Str × Value)} {base h : Heap} {Out : Heap → Value → Prop} (q : Spec w n f args kw h Out) : SpecX w n f args kw base h Out :=
  fun A r tk Q E C hh hd hu ret => q A r tk Q E C.cx hh hd hu fun v h' tk' k o => ret v h' tk' (UpW.of_stays k C.K) o

section
variable {w : World} {A : Around} {E : Value → Shared → Prop} {s r : Shared} {base h : Heap} {tk : Nat} {env : Env}

theorem enterX {Q : Value → Shared → Prop} {name qual : Str} {params : Arguments} {body : List Stmt} {scope : Scope} {dV kV doc pm cdv ct oc : Value} {an od : Option Addr} {osl : Array (Option Value)} {f : Addr}
    {args : List Value} {kw : List (Str × Value)} {binds : List (Str × Value)}
    (C : CxX w A base h) (hroom : A.depth < recursionLimit) (ho : (KP w).lookup f = some ⟨oc, od, .func (fnOf name qual params body scope dV kV doc pm an cdv ct), osl⟩) (hcd : codeIn (KP w) cdv qual = true)
    (hbind : BindsTo (S r h tk) (fnOf name qual params body scope dV kV doc pm an cdv ct) ⟨args, kw⟩ binds) (hloc : (binds.all fun x => decide (scope.names.lookup x.1 = some .local)) = true)
    (hQ : ∀ L h₁ tk₁, FrX base h L h₁ (fun y => binds.reverse.lookup y) → (∀ h' m', FrX base h L h' m' → CxX w (A.deeper (envOf qual scope L f cdv)) base h') →
      wpAny (model PG w) (A.deeper (envOf qual scope L f cdv)) (execs body (envOf qual scope L f cdv)) (fun fl s' => Q (match fl with | .ret v => v | _ => .none) s') NoE (S r h₁ tk₁))
    (hco : scope.isCoroutine = false := by rfl) (hgen : scope.isGenerator = false := by rfl) (hk : scope.kind = .function := by rfl)
    (hcell : ∀ x ∈ scope.names, x.2 ≠ .cell := by decide) : wpAny (model PG w) A (call (.ref f) args kw) Q E (S r h tk) :=
  enter C.cx hroom ho hcd hbind hloc (fun L h₁ tk₁ F _ => hQ L h₁ tk₁ (FrX.of_fr F C.K) fun h' m' F' => C.push F' hk) hco hgen hk hcell
end
end Mine

namespace Mine

/-- an exception, its newest entry `T`, the frame noted there as in flight -/
structure Held (h : Heap) (e T : Addr) (cls : Value) (x2 : Option Value) (fl : Value) : Prop where
  ne : T ≠ e
  there : ∃ oe vs oT ts, h.get? e = some oe ∧ oe.cls = cls ∧ oe.data = .fields vs ∧ vs[1]? = some (.ref T) ∧ vs[2]? = x2 ∧ h.get? T = some oT ∧ oT.data = .fields ts ∧ ts[3]? = some fl
theorem Held.exc {h : Heap} {e T : Addr} {cls fl : Value} (H : Held h e T cls (some .none) fl) : ExcAt h e := by
  obtain ⟨_, oe, vs, oT, ts, he, hc, hd, _, h2, _⟩ := H
  exact ⟨oe, vs, he, hd, h2⟩

section
variable {w : World} {A : Around} {E : Value → Shared → Prop} {s : Shared} {base : Heap} {env : Env}

theorem noteFirst {M : Model} {outer : List Env} {L e : Addr} {oe : Obj} {vs : Array Value} {Q : Unit → Shared → Prop}
    (hfr : A.frames = some (env :: outer)) (ff : FF s.heap base (env :: outer)) (hf : env.frame = some L) (hk : base.StaysIn s.heap)
    (he : s.heap.get? e = some oe) (hd : oe.data = .fields vs) (h1 : vs[1]? = some .none) (hb : base.get? e = none)
    (hQ : ∀ h' T, UpW (· = e) base s.heap h' → Held h' e T oe.cls vs[2]? (rawInt L) → s.heap.get? T = none → Q () { s with heap := h' }) :
    wpAny M A (noteFrame (.ref e) env) Q E s := by
  have hsz : 1 < vs.size := (Array.getElem?_eq_some_iff.mp h1).1
  have hfm : ∀ b ∈ (env :: outer).filterMap (·.frame), ∃ m, s.heap.Ns b m := fun b hb => by
    obtain ⟨e', he', q⟩ := List.mem_filterMap.mp hb
    obtain ⟨_, L', m, hf', _, hn⟩ := ff e' he'
    rw [hf'] at q; cases q
    exact ⟨m, hn⟩
  have hene : e ∉ (env :: outer).filterMap (·.frame) := fun hm => by
    obtain ⟨m, o, es, ep, ho, hdd, _⟩ := hfm e hm
    rw [he] at ho; cases ho; rw [hd] at hdd; cases hdd
  unfold noteFrame
  simp only [hf]
  refine wpAny_bind (wpAny_field he hd h1 ?_)
  rw [if_neg (by decide)]
  refine wpAny_bind (wpAny_frameOf_fun hfr ff.fun hf fun h₁ hs₁ => ?_)
  refine wpAny_bind (wpAny_entryPlaceOf fun pl hpl => ?_)
  unfold EntryCells.newEntry newFields
  refine wpAny_bind (wpAny_newObj_type ?_ (hpl.sizeOk5 _ _ _ _ _))
  have he₁ : h₁.get? e = some oe := (hs₁.2.1 e hene).trans he
  generalize hO : (Obj.mk (.type "traceback") _ _ _ : Obj) = ot
  obtain ⟨ts, hts, ht3⟩ : ∃ ts, ot.data = .fields ts ∧ ts[3]? = some (rawInt L) := ⟨_, by rw [← hO], by simp⟩
  have hfr : ot.isFreed = false := by rw [← hO]; rfl
  have he₂ := Heap.get?_push_of_some (h := h₁) ot he₁
  refine wpAny_setField he₂ hd hsz ?_
  have hTe : h₁.objs.size ≠ e := Nat.ne_of_gt (Heap.lt_size he₁)
  have hd₃ := Obj.data_mapFields hd (·.setIfInBounds 1 (Value.ref h₁.objs.size))
  have he₃ := Heap.get?_update_self (Obj.mapFields (·.setIfInBounds 1 (Value.ref h₁.objs.size))) he₂ (Obj.isFreed_of_fields hd₃)
  have keep : ∀ b o, b ≠ e → h₁.get? b = some o → ((h₁.push ot).update e (Obj.mapFields (·.setIfInBounds 1 (Value.ref h₁.objs.size)))).get? b = some o := fun b o hbe hb => by
    rw [Heap.get?_update_other _ _ (Ne.symm hbe)]
    exact Heap.get?_push_of_some _ hb
  have hT₃ : ((h₁.push ot).update e (Obj.mapFields (·.setIfInBounds 1 (Value.ref h₁.objs.size)))).get? h₁.objs.size = some ot := by
    rw [Heap.get?_update_other _ _ (Ne.symm hTe)]
    exact Heap.get?_push_size h₁ hfr
  refine hQ _ h₁.objs.size ⟨fun b o hbe hb' => ?_, fun b o hb' => ?_⟩ ⟨hTe, ?_⟩ (get?_ge (by rw [hs₁.1]; exact Nat.le_refl _))
  · obtain ⟨sl, hsl⟩ := hs₁.2.2 b o hb'
    refine ⟨sl, keep b _ hbe hsl, fun nd => ?_⟩
    have hbn : b ∉ (env :: outer).filterMap (·.frame) := fun hm => by
      obtain ⟨m, o', es, ep, ho', hdd, _⟩ := hfm b hm
      rw [hb'] at ho'; cases ho'
      exact nd _ _ hdd
    have := (hs₁.2.1 b hbn).trans hb'
    rw [hsl] at this
    have := congrArg (fun o : Option Obj => o.map Obj.slots) this
    simpa using this
  · have hbe : b ≠ e := fun q => by rw [q, hb] at hb'; cases hb'
    refine keep b o hbe ?_
    refine (hs₁.2.1 b fun hm => ?_).trans (hk b o hb')
    rw [((ff.fun).mem hm).1] at hb'; cases hb'
  · refine ⟨_, _, ot, ts, he₃, Obj.cls_mapFields _ _, hd₃, by simp [hsz], ?_, hT₃, hts, ht3⟩
    rw [Array.getElem?_setIfInBounds_ne (by decide)]

theorem flightOff {M : Model} {e T : Addr} {cls fl : Value} {x2 : Option Value} {Q : Unit → Shared → Prop} (H : Held s.heap e T cls x2 fl) (hk : base.StaysIn s.heap) (hT : base.get? T = none)
    (hQ : ∀ h', UpW (· = T) base s.heap h' → Held h' e T cls x2 .none → Q () { s with heap := h' }) : wpAny M A (setFlight (.ref e) none) Q E s := by
  obtain ⟨ne, oe, vs, oT, ts, he, hc, hd, h1, h2, ht, htd, h3⟩ := H
  have hsz : 3 < ts.size := (Array.getElem?_eq_some_iff.mp h3).1
  refine wpAny_setFlight_none he hd h1 ht htd hsz (hQ _ ⟨fun b o n e' => ⟨o.slots, ?_, fun _ => rfl⟩, fun b o e' => ?_⟩ ⟨ne, ?_⟩)
  · exact (Heap.get?_update_other _ _ (Ne.symm n)).trans e'
  · exact (Heap.get?_update_other _ _ (fun q => by rw [← q, hT] at e'; cases e')).trans (hk b o e')
  · exact ⟨oe, vs, _, _, (Heap.get?_update_other _ _ ne).trans he, hc, hd, h1, h2, Heap.get?_update_self _ ht (Obj.isFreed_of_fields (Obj.data_mapFields htd _)), Obj.data_mapFields htd _, by simp [hsz]⟩
theorem flightOn {M : Model} {e T L : Addr} {cls fl : Value} {x2 : Option Value} {Q : Unit → Shared → Prop} (H : Held s.heap e T cls x2 fl) (hk : base.StaysIn s.heap) (hT : base.get? T = none)
    (hQ : ∀ h', UpW (· = T) base s.heap h' → Held h' e T cls x2 (rawInt L) → Q () { s with heap := h' }) : wpAny M A (setFlight (.ref e) (some L)) Q E s := by
  obtain ⟨ne, oe, vs, oT, ts, he, hc, hd, h1, h2, ht, htd, h3⟩ := H
  have hsz : 3 < ts.size := (Array.getElem?_eq_some_iff.mp h3).1
  unfold setFlight
  refine wpAny_bind (wpAny_field he hd h1 ?_)
  rw [if_pos (show (Value.ref T != Value.none) = true from by simp)]
  refine wpAny_setField ht htd hsz (hQ _ ⟨fun b o n e' => ⟨o.slots, ?_, fun _ => rfl⟩, fun b o e' => ?_⟩ ⟨ne, ?_⟩)
  · exact (Heap.get?_update_other _ _ (Ne.symm n)).trans e'
  · exact (Heap.get?_update_other _ _ (fun q => by rw [← q, hT] at e'; cases e')).trans (hk b o e')
  · exact ⟨oe, vs, _, _, (Heap.get?_update_other _ _ ne).trans he, hc, hd, h1, h2, Heap.get?_update_self _ ht (Obj.isFreed_of_fields (Obj.data_mapFields htd _)), Obj.data_mapFields htd _, by simp [hsz]⟩
theorem cameBack {M : Model} {e T L : Addr} {cls fl : Value} {x2 : Option Value} (hf : env.frame = some L) (H : Held s.heap e T cls x2 fl) (hk : base.StaysIn s.heap) (hT : base.get? T = none)
    (hQ : ∀ h', UpW (· = T) base s.heap h' → Held h' e T cls x2 (rawInt L) → E (.ref e) { s with heap := h' }) : cameBackBy M A env E (.ref e) s := by
  unfold cameBackBy
  obtain ⟨_, oe, vs, oT, ts, he, hc, hd, h1, h2, ht, htd, h3⟩ := id H
  refine wpAny_bind (wpAny_field he hd h1 ?_)
  rw [if_neg (show ¬ ((Value.ref T == Value.none) = true) from Bool.false_ne_true)]
  rw [hf]
  first
    | exact flightOn H hk hT hQ
    | exact wpAny_bind (wpAny_pure (flightOn H hk hT hQ))
theorem noteAgain {M : Model} {e T L : Addr} {cls : Value} {x2 : Option Value} {Q : Unit → Shared → Prop} (hf : env.frame = some L) (H : Held s.heap e T cls x2 (rawInt L)) (hQ : Q () s) :
    wpAny M A (noteFrame (.ref e) env) Q E s := by
  obtain ⟨_, oe, vs, oT, ts, he, hc, hd, h1, h2, ht, htd, h3⟩ := H
  exact wpAny_noteFrame_inFlight hf he hd h1 ht htd h3 hQ

/-- the clause `except T:` takes it -/
theorem handled_here {e T : Addr} {fl : Value} {x2 : Option Value} {X Tn : String} {t : Expr} {b₀ : Stmt} {suite : List Stmt} {pos : Pos} {rest : List ExceptHandler} {Q : Flow → Shared → Prop}
    (H : Held s.heap e T (.type X) x2 fl) (hk : base.StaysIn s.heap) (hT : base.get? T = none)
    (hexc : isSubtype (.type Tn) (.type "BaseException") = pure true) (hnt : isSubtype (.type ((Manifest.find? Tn).elim "type" fun y => y.metatype)) (.type "tuple") = pure false) (hsub : isSubtype (.type X) (.type Tn) = pure true)
    (hname : ∀ (Q' : Value → Shared → Prop), Q' (.type Tn) s → wpAny (model PG w) (A.mark (some (.ref e))) (eval t env) Q' NoE s)
    (k : ∀ h', UpW (· = T) base s.heap h' → Held h' e T (.type X) x2 .none → wpAny (model PG w) (A.mark (some (.ref e))) (execs (b₀ :: suite) env) Q NoE { s with heap := h' }) :
    wpAny (model PG w) A (handleBy (.ref e) env (.ExceptHandler (some t) none (b₀ :: suite) pos :: rest)) Q E s := by
  refine wpAny_handleBy_builtin (X := X) (T := Tn) (b := true) hexc hnt hsub (noE (hname _ ⟨rfl, ?_, ?_⟩))
  · obtain ⟨_, oe, vs, oT, ts, he, hc, _⟩ := H
    exact ⟨oe, he, hc⟩
  · rw [if_pos rfl]
    exact flightOff H hk hT fun h' u H' => noE (k h' u H')
end
end Mine

namespace Mine

def ItersX (w : World) (A : Around) (W : Addr → Prop) (g : Heap) (it : Value) (g₂ : Heap) (n : Nat) (P : Nat → Value → Prop) : Prop :=
  ∃ I fp wr St, it = .ref I ∧ Walks PG w A I fp wr n P St ∧ St 0 g₂ ∧ g.StaysIn g₂ ∧ (∀ b ∈ fp, ¬ W b ∧ b < g₂.objs.size) ∧ (∀ b ∈ wr, g.get? b = none) ∧ (∀ i h, St i h → ∀ b ∈ wr, ∀ xs, ¬ h.IsList b xs) ∧
    (∀ i h, St i h → ∀ b ∈ fp, ∀ o, h.get? b = some o → NotDict o)
theorem ItersX.iters {w : World} {A : Around} {W : Addr → Prop} {g : Heap} {it : Value} {g₂ : Heap} {n : Nat} {P : Nat → Value → Prop} (x : ItersX w A W g it g₂ n P) : Iters w A W g it g₂ n P :=
  let ⟨I, fp, wr, St, a, b, c, d, e, f, g, _⟩ := x; ⟨I, fp, wr, St, a, b, c, d, e, f, g⟩

theorem notDict_list {h : Heap} {l : Addr} {xs : Array Value} (hl : h.IsList l xs) : ∀ o, h.get? l = some o → NotDict o := fun o e => by
  obtain ⟨o', ho, _, n, hd⟩ := hl
  rw [e] at ho; cases ho
  intro es n' q; rw [hd] at q; cases q

section
variable {w : World} {A : Around} {E : Value → Shared → Prop} {s r : Shared} {base h : Heap} {tk : Nat} {env : Env}

theorem iters_listX (W : Addr → Prop) {l : Addr} {vs : List Value} {Q : Value → Shared → Prop} (hh : A.handled = none) (hl : h.IsList l vs.toArray) (hW : ¬ W l) (hI : ¬ W h.objs.size)
    (hQ : ∀ it g₂, ItersX w A W h it g₂ vs.length (fun i v => vs[i]? = some v) → Q it (S r g₂ tk)) : wpAny (model PG w) A (pyIter (.ref l)) Q E (S r h tk) := by
  have hll := isList_lt hl
  refine wpAny_pyIter_list (s := S r h tk) hl (hQ _ _ ?_)
  have Wk := Walks.list (prog := PG) (w := w) hh h.objs.size l (Nat.ne_of_lt hll) vs.toArray
  have Wk' : Walks PG w A h.objs.size [h.objs.size, l] [h.objs.size] vs.length (fun i v => vs[i]? = some v) fun i q => q.IsListIter h.objs.size l i ∧ q.IsList l vs.toArray := by simpa using Wk
  refine ⟨h.objs.size, _, _, _, rfl, Wk', ⟨⟨_, Heap.get?_push_size _ rfl, rfl, rfl⟩, LK.of_stays (stays_push _ _) _ _ hl⟩, stays_push _ _, ?_, ?_, ?_, ?_⟩
  · intro b hb
    rw [Heap.size_push]
    rcases List.mem_cons.mp hb with e | hb
    · exact ⟨e ▸ hI, by rw [e]; exact Nat.lt_succ_self _⟩
    · rw [List.mem_singleton.mp hb]; exact ⟨hW, Nat.lt_succ_of_lt hll⟩
  · intro b hb
    rw [List.mem_singleton.mp hb]
    exact get?_ge (Nat.le_refl _)
  · intro i h' st b hb xs x
    rw [List.mem_singleton.mp hb] at x
    obtain ⟨o, ho, hc, _⟩ := x
    obtain ⟨o', ho', hc', _⟩ := st.1
    rw [ho] at ho'; cases ho'; rw [hc] at hc'; exact absurd hc' (by simp)
  · intro i h' st b hb o e
    rcases List.mem_cons.mp hb with q | hb
    · rw [q] at e
      obtain ⟨o', ho', _, hd⟩ := st.1
      rw [e] at ho'; cases ho'
      intro es n' q; rw [hd] at q; cases q
    · rw [List.mem_singleton.mp hb] at e
      exact notDict_list st.2 o e

theorem iters_rangeX (W : Addr → Prop) {l : Addr} {n : Nat} {t u v : Tok} {Q : Value → Shared → Prop} (hh : A.handled = none) (hr : IsRange h l 0 n 1 t u v) (hn : n < 1000000) (hI : ¬ W h.objs.size)
    (hQ : ∀ it g₂, ItersX w A W h it g₂ n (fun i v => ∃ t, v = .int (i : Nat) t) → Q it (S r g₂ tk)) : wpAny (model PG w) A (pyIter (.ref l)) Q E (S r h tk) := by
  refine wpAny_pyIter_range (s := S r h tk) hr (small_one (by decide) (by decide) (by omega) (by omega)) (hQ _ _ ?_)
  have hsz : Builtin.Range.rangeSize 0 n 1 = (n : Int) := by rw [rangeSize_one]; split <;> omega
  have Wk := Walks.range (prog := PG) (w := w) hh h.objs.size 0 1 n
  have e0 : ∀ i : Nat, ((0 : Int) + (i : Int) * 1) = (i : Int) := fun i => by omega
  simp only [e0] at Wk
  refine ⟨h.objs.size, _, _, _, rfl, Wk, ?_, stays_push _ _, ?_, ?_, ?_, ?_⟩
  · rw [hsz]
    have e2 : ((n : Int) - ((0 : Nat) : Int)) = n := by omega
    rw [e2]
    exact Heap.get?_push_size _ rfl
  · intro b hb
    rw [Heap.size_push, List.mem_singleton.mp hb]
    exact ⟨hI, Nat.lt_succ_self _⟩
  · intro b hb
    rw [List.mem_singleton.mp hb]
    exact get?_ge (Nat.le_refl _)
  · intro i h' st b hb xs x
    rw [List.mem_singleton.mp hb] at x
    obtain ⟨o, ho, hc, _⟩ := x
    have st' : h'.get? h.objs.size = _ := st
    rw [st'] at ho; cases ho
    exact absurd hc (by simp)
  · intro i h' st b hb o e
    rw [List.mem_singleton.mp hb] at e
    have st' : h'.get? h.objs.size = _ := st
    rw [st'] at e; cases e
    intro es n' q; cases q

theorem For_walkX {hz : Heap} {tz : Nat} {x : Str} {px pos : Pos} {iter : Expr} {body : List Stmt} {Q : Flow → Shared → Prop} (base : Heap) (W : Addr → Prop) (J : Nat → Heap → (Str → Option Value) → Prop)
    (hJ : ∀ i h h' m m', J i h m → LK h h' → PK h h' → (∀ y, y ≠ x → m' y = m y) → J i h' m')
    (h : wpAny (model PG w) A (eval iter env) (fun xv s₁ => wpAny (model PG w) A (pyIter xv) (fun it s₂ => ∃ n P m g₁ g₂ tk₂, s₂ = S r g₂ tk₂ ∧ ItersX w A W g₁ it g₂ n P ∧ W env.locals ∧ base.StaysIn g₁ ∧ base.get? env.locals = none ∧ g₁.Ns env.locals m ∧ J 0 g₁ m ∧
      (∀ i v h₂ m₂ tk, i < n → P i v → UpW W base g₁ h₂ → h₂.Ns env.locals m₂ → m₂ x = some v → J i h₂ m₂ →
        wpAny (model PG w) A (execs body env) (fun fl s₃ => (fl = .next ∨ fl = .cont) ∧ ∃ h₃ tk₃ m₃, s₃ = S r h₃ tk₃ ∧ UpW W base h₂ h₃ ∧ h₃.Ns env.locals m₃ ∧ J (i + 1) h₃ m₃) NoE (S r h₂ tk)) ∧
      (∀ h' tk m', UpW W base g₁ h' → h'.Ns env.locals m' → J n h' m' → Q .next (S r h' tk))) E s₁) E (S r hz tz))
    (hl : env.kindOf x = some .local := by rfl) (hp : (env.scope.kind == .class || (env.scope.kind == .module && env.locals != env.globals)) = false := by rfl)
    (hs : ∀ x, foldedSetIterable iter env x = pure x := by intro _; rfl) :
    wpAny (model PG w) A (exec (.For (.Name x px) iter body [] pos) env) Q E (S r hz tz) := by
  refine wpAny_For (wpAny_mono h (fun xv s₁ h₁ => wpAny_mono h₁ (fun it s₂ h₂ => ?_) fun _ _ e => e) fun _ _ e => e) hs
  obtain ⟨n, P, m, g₁, g₂, tk₂, rfl, ⟨I, fp, wr, St, rfl, Wk, hst, hk, hfp, hwr, hnl, hnd⟩, hWL, hbg, hbL, hn, h0, turn, done⟩ := h₂
  have hLf : env.locals ∉ fp := fun q => (hfp _ q).1 hWL
  have hLw : env.locals ∉ wr := fun q => hLf (Wk.sub _ q)
  have hbw : ∀ b ∈ wr, base.get? b = none := fun b hb => get?_none_of_stays hbg (hwr b hb)
  have lkw : ∀ i h h', St i h → (∀ b o, b ∉ wr → h.get? b = some o → h'.get? b = some o) → LK h h' := fun i h h' st k a xs x => by
    obtain ⟨o, ho, r⟩ := id x
    exact ⟨o, k a o (fun q => hnl i h st a q xs x) ho, r⟩
  have pkw : ∀ i h h', St i h → (∀ b o, b ∉ wr → h.get? b = some o → h'.get? b = some o) → PK h h' := fun i h h' st k a xs x => x.at fun o e => k a o (fun q => hnl i h st a q xs x.isList) e
  have kpw : ∀ h h', UpW W base g₁ h → (∀ b o, b ∉ wr → h.get? b = some o → h'.get? b = some o) → UpW W base g₁ h' := fun h h' k k' =>
    ⟨fun b o nb e => let ⟨sl, e1, f1⟩ := k.1 b o nb e; ⟨sl, k' b _ (fun q => by rw [hwr b q] at e; cases e) e1, f1⟩, fun b o e => k' b o (fun q => by rw [hbw b q] at e; cases e) (k.2 b o e)⟩
  refine codeAny_forLoop (fun k s' => ∃ h' tk m' i, s' = S r h' tk ∧ St i h' ∧ UpW W base g₁ h' ∧ h'.Ns env.locals m' ∧ J i h' m' ∧ i ≤ n ∧ k = n + 1 - i) ?_ (n + 1)
    ⟨g₂, tk₂, m, 0, rfl, hst, UpW.of_stays hk hbg, hn.keeps hk, hJ _ _ _ _ _ h0 (LK.of_stays hk) (PK.of_stays hk) fun _ _ => rfl, Nat.zero_le _, rfl⟩
  rintro k s' ⟨h', tk, m', i, rfl, hst', hkp, hns, hj, hi, rfl⟩
  by_cases hlt : i < n
  · refine Wk.item i _ _ _ hlt hst' fun v h₁ tk₁ hPv hst₁ hk₁ => ?_
    have hns₁ : h₁.Ns env.locals m' := hns.at' fun o e => hk₁ _ o hLw e
    refine wpAny_assign_Name (wpAny_storeName_local hl hns₁ (fun h₂ hn₂ hs₂ => ?_) hp)
    have hst₂ : St (i + 1) h₂ := Wk.frame _ _ _ hst₁ fun b hb o e => hs₂.extBut b o (fun q => hLf (q ▸ hb)) e
    have lk₂ : LK h' h₂ := (lkw _ _ _ hst' hk₁).trans (LK.of_same (fun xs => not_list_of_ns hns₁) hs₂)
    have pk₂ : PK h' h₂ := (pkw _ _ _ hst' hk₁).trans (PK.of_same (fun xs => not_list_of_ns hns₁) hs₂)
    have kp₁ := kpw _ _ hkp hk₁
    have kp₂ : UpW W base g₁ h₂ := kp₁.trans (UpW.of_same hWL hs₂ kp₁.2 hbL)
    have j₂ : J i h₂ (fun y => if y = x then some v else m' y) := hJ _ _ _ _ _ hj lk₂ pk₂ fun y hy => by simp [hy]
    refine wpAny_mono (noE (turn i v h₂ _ _ hlt hPv kp₂ hn₂ upd_self j₂)) (fun fl s₃ h₃ => ?_) fun _ _ e => e
    obtain ⟨hf, h₃, tk₃, m₃, rfl, kp₃, hn₃, j₃⟩ := h₃
    have fin : ∃ mm, mm < n + 1 - i ∧ ∃ h' tk m' i, S r h₃ tk₃ = S r h' tk ∧ St i h' ∧ UpW W base g₁ h' ∧ h'.Ns env.locals m' ∧ J i h' m' ∧ i ≤ n ∧ mm = n + 1 - i :=
      ⟨n + 1 - (i + 1), by omega, h₃, tk₃, m₃, i + 1, rfl, Wk.frame _ _ _ hst₂ fun b hb o e => kp₃.get (hfp b hb).1 e (hnd _ _ hst₂ b hb o e), kp₂.trans kp₃, hn₃, j₃, hlt, rfl⟩
    rcases hf with rfl | rfl <;> exact fin
  · have hin : i = n := by omega
    subst hin
    refine Wk.done _ _ _ hst' fun h₁ tk₁ hk₁ => wpAny_execs_nil ?_
    exact done h₁ tk₁ m' (kpw _ _ hkp hk₁) (hns.at' fun o e => hk₁ _ o hLw e) (hJ _ _ _ _ _ hj (lkw _ _ _ hst' hk₁) (pkw _ _ _ hst' hk₁) fun _ _ => rfl)

theorem comp_loopX {elt iter : Expr} {x : Str} {px : Pos} {ifs : List Expr} {scope : Scope} {pos : Pos} {I D : Addr} {fp wr : List Addr} {n : Nat} {P : Nat → Value → Prop} {St : Nat → Heap → Prop}
    {cenv : Env} {m : Str → Option Value} {base g h0 : Heap} {tk0 : Nat} {Rr : Result → Shared → Prop} (Wk : Walks PG w A I fp wr n P St) (p : Value → Bool) (R : (Addr → Prop) → Heap → Value → Value → Prop) (hR : Soft R)
    (hx : cenv.kindOf x = some .local) (hp : (cenv.scope.kind == .class || (cenv.scope.kind == .module && cenv.locals != cenv.globals)) = false)
    (hDC : D ≠ cenv.locals) (hDf : D ∉ fp) (hCf : cenv.locals ∉ fp) (hgD : g.get? D = none) (hgC : g.get? cenv.locals = none) (hwr : ∀ b ∈ wr, g.get? b = none)
    (hnl : ∀ i h, St i h → ∀ b ∈ wr, ∀ xs, ¬ h.IsList b xs) (hnd : ∀ i h, St i h → ∀ b ∈ fp, ∀ o, h.get? b = some o → NotDict o) (hbg : base.StaysIn g)
    (hst : St 0 h0) (hacc : h0.IsList D #[]) (hn : h0.Ns cenv.locals m) (hk : g.StaysIn h0) (hsz : n ≤ sizeLine)
    (htests : ∀ i v h₂ m₂ tk, P i v → Up base g h₂ → h₂.Ns cenv.locals m₂ → m₂ x = some v →
      wpAny (model PG w) A (testsOf ifs cenv) (fun ok s₃ => ok = p v ∧ ∃ h₃ tk₃, s₃ = S r h₃ tk₃ ∧ Up base h₂ h₃) NoE (S r h₂ tk))
    (helt : ∀ i v h₂ m₂ tk, P i v → p v = true → Up base g h₂ → h₂.Ns cenv.locals m₂ → m₂ x = some v →
      wpAny (model PG w) A (eval elt cenv) (fun y s₃ => ∃ h₃ tk₃, s₃ = S r h₃ tk₃ ∧ Up base h₂ h₃ ∧ R (Free h₂) h₃ v y) NoE (S r h₂ tk))
    (hQ : ∀ h' tk m' ys (vs : List Value), Up base g h' → h'.Ns cenv.locals m' → h'.IsList D (List.toArray ys) → vs.length = n → (∀ j v, vs[j]? = some v → P j v) → All2 (R (FreeBut g D) h') (vs.filter p) ys →
      Rr (.ok .next) (S r h' tk)) :
    codeAny (model PG w) A (.compLoop (.ListComp elt [⟨.Name x px, iter, ifs, 0⟩] scope pos) 0 (.ref I) (.ref D) cenv) Rr (S r h0 tk0) := by
  refine codeAny_compLoop_tests
    (fun k s' => ∃ h' tk m' ys, ∃ vs : List Value, s' = (S r h' tk) ∧ St vs.length h' ∧ h'.IsList D (List.toArray ys) ∧ h'.Ns cenv.locals m' ∧ (∀ j v, vs[j]? = some v → P j v) ∧
      All2 (R (FreeBut g D) h') (vs.filter p) ys ∧ vs.length ≤ n ∧ k = n + 1 - vs.length ∧ Up base g h') ?_ (n + 1)
    ⟨h0, tk0, m, [], [], rfl, hst, hacc, hn, by simp, .nil, Nat.zero_le _, rfl, UpW.of_stays hk hbg⟩
  rintro k s' ⟨H, tk, m', ys, vs, rfl, hst', hacc', hn', hP, hF, hi, rfl, hk'⟩
  have hCw : cenv.locals ∉ wr := fun h => hCf (Wk.sub _ h)
  have hDw : D ∉ wr := fun h => hDf (Wk.sub _ h)
  have hbw : ∀ b ∈ wr, base.get? b = none := fun b hb => get?_none_of_stays hbg (hwr b hb)
  have hbD := get?_none_of_stays hbg hgD
  have hbC := get?_none_of_stays hbg hgC
  have lkw : ∀ i h h', St i h → (∀ b o, b ∉ wr → h.get? b = some o → h'.get? b = some o) → LK h h' := fun i h h' st k a xs x => by
    obtain ⟨o, ho, r⟩ := id x
    exact ⟨o, k a o (fun q => hnl i h st a q xs x) ho, r⟩
  have stw : ∀ h h', Up base g h → (∀ b o, b ∉ wr → h.get? b = some o → h'.get? b = some o) → Up base g h' := fun h h' k k' =>
    ⟨fun b o nb e => let ⟨sl, e1, f1⟩ := k.1 b o nb e; ⟨sl, k' b _ (fun q => by rw [hwr b q] at e; cases e) e1, f1⟩, fun b o e => k' b o (fun q => by rw [hbw b q] at e; cases e) (k.2 b o e)⟩
  have soft : ∀ {h h' : Heap} {a b}, LK h h' → All2 (R (FreeBut g D) h) a b → All2 (R (FreeBut g D) h') a b := fun lk q => q.imp fun _ _ r => hR _ _ _ _ _ _ (fun a xs ok l => ⟨ok, lk a xs l⟩) r
  have samego : ∀ {h h' : Heap} {L : Addr}, g.get? L = none → base.get? L = none → Up base g h → Heap.SameBut L h h' → Up base g h' := fun hg hb k hs =>
    (UpW.of_same (W := fun b => b = _) rfl hs k.2 hb).up_fresh k fun b q => q ▸ hg
  by_cases hlt : vs.length < n
  · refine Wk.item vs.length _ _ _ hlt hst' fun v h₁ tk₁ hPv hst₁ hk₁ => ?_
    have hns₁ : h₁.Ns cenv.locals m' := hn'.at' fun o e => hk₁ _ o hCw e
    refine wpAny_assign_Name (wpAny_storeName_local hx hns₁ (fun h₂ hn₂ hs₂ => ?_) hp)
    have hst₂ : St (vs.length + 1) h₂ := Wk.frame _ _ _ hst₁ fun b hb o e => hs₂.extBut b o (fun h => hCf (h ▸ hb)) e
    have lk₂ : LK H h₂ := (lkw _ _ _ hst' hk₁).trans (LK.of_same (fun xs => not_list_of_ns hns₁) hs₂)
    have k₂ : Up base g h₂ := samego hgC hbC (stw _ _ hk' hk₁) hs₂
    refine wpAny_mono (noE (htests vs.length v h₂ _ _ hPv k₂ hn₂ upd_self)) (fun ok s₃ h₃ => ?_) fun _ _ e => e
    obtain ⟨rfl, h₃, tk₃, rfl, hk₃⟩ := h₃
    have hst₃ : St (vs.length + 1) h₃ := Wk.frame _ _ _ hst₂ fun b hb o e => hk₃.get (fun q => q) e (hnd _ _ hst₂ b hb o e)
    have hn₃ := hk₃.ns hn₂ fun q => q
    have hP' : ∀ j u, (vs ++ [v])[j]? = some u → P j u := fun j u hj => by
      rcases Nat.lt_trichotomy j vs.length with h | h | h
      · exact hP j u (by rwa [List.getElem?_append_left h] at hj)
      · subst h; simp at hj; subst hj; exact hPv
      · have hnone : (vs ++ [v])[j]? = none := List.getElem?_eq_none (by rw [List.length_append, List.length_singleton]; omega)
        rw [hnone] at hj; cases hj
    cases hpv : p v with
    | false =>
      simp only [Bool.false_eq_true, if_false]
      refine ⟨n + 1 - (vs.length + 1), by omega, h₃, tk₃, _, ys, vs ++ [v], rfl, by simpa using hst₃, (lk₂.trans hk₃.lk0) _ _ hacc', hn₃, hP', ?_, (by rw [List.length_append, List.length_singleton]; exact hlt),
        (by rw [List.length_append, List.length_singleton]), k₂.trans hk₃⟩
      rw [filter_snoc, hpv]
      exact soft (lk₂.trans hk₃.lk0) hF
    | true =>
      simp only [if_true]
      refine wpAny_mono (noE (helt vs.length v h₃ _ _ hPv hpv (k₂.trans hk₃) hn₃ upd_self)) (fun y s₄ h₄ => ?_) fun _ _ e => e
      obtain ⟨h₄, tk₄, rfl, hk₄, hr₄⟩ := h₄
      have hys : ys.length ≤ sizeLine := by
        have e1 := hF.length
        have e2 : (vs.filter p).length ≤ vs.length := List.length_filter_le _ _
        omega
      have hD₃ : h₃.IsList D (List.toArray ys) := (lk₂.trans hk₃.lk0) _ _ hacc'
      have hD₄ : h₄.IsList D (List.toArray ys) := hk₄.lk0 _ _ hD₃
      refine wpAny_list_append (hsz := by rw [List.size_toArray]; exact hys) hD₄ fun h₅ hl₅ hs₅ => ?_
      have k₃ : Up base g h₃ := k₂.trans hk₃
      have k₄ : Up base g h₄ := k₃.trans hk₄
      have k₅ : Up base g h₅ := samego hgD hbD k₄ hs₅
      have soft5 : ∀ {v y}, R (FreeBut g D) h₄ v y → R (FreeBut g D) h₅ v y := fun q => hR _ _ _ _ _ _ (fun a xs ok l => ⟨ok, l.extBut hs₅.extBut ok.2⟩) q
      refine ⟨n + 1 - (vs.length + 1), by omega, h₅, tk₄, _, ys ++ [y], vs ++ [v], rfl, ?_, ?_, (hk₄.ns hn₃ fun q => q).sameBut hs₅ (Ne.symm hDC), hP', ?_, (by rw [List.length_append, List.length_singleton]; exact hlt),
        (by rw [List.length_append, List.length_singleton]), k₅⟩
      · have hst₄ : St (vs.length + 1) h₄ := Wk.frame _ _ _ hst₃ fun b hb o e => hk₄.get (fun q => q) e (hnd _ _ hst₃ b hb o e)
        have := Wk.frame _ _ h₅ hst₄ fun b hb o e => hs₅.extBut b o (fun h => hDf (h ▸ hb)) e
        simpa using this
      · simpa using hl₅
      · rw [filter_snoc, hpv]
        have f4 : All2 (R (FreeBut g D) h₄) (vs.filter p) ys := soft ((lk₂.trans hk₃.lk0).trans hk₄.lk0) hF
        refine (f4.imp fun _ _ => soft5).snoc (soft5 ?_)
        refine hR _ _ _ _ _ _ (fun a xs ok l => ⟨⟨?_, ?_⟩, l⟩) hr₄
        · exact k₃.free ok
        · rintro rfl
          exact isList_some hD₃ ok
  · have hin : vs.length = n := by omega
    refine Wk.done _ _ _ (hin ▸ hst') fun h₁ tk₁ hk₁ => ?_
    exact hQ h₁ tk₁ m' ys vs (stw _ _ hk' hk₁) (hn'.at' fun o e => hk₁ _ o hCw e) (lkw _ _ _ hst' hk₁ _ _ hacc') hin hP (soft (lkw _ _ _ hst' hk₁) hF)

theorem comp_blockX {elt iter : Expr} {x : Str} {px : Pos} {ifs : List Expr} {scope : Scope} {pos : Pos} {it : Value} {n : Nat} {P : Nat → Value → Prop} {base g g₂ : Heap} {tk0 : Nat} {V : Addr → Prop}
    (p : Value → Bool) (R : (Addr → Prop) → Heap → Value → Value → Prop) (hR : Soft R) {RR : Value → Env → Result → Shared → Prop}
    (hcell : ∀ y ∈ scope.names, y.2 ≠ .cell) (hkind : scope.kind = .function) (hx : scope.names.lookup x = some .local) (It : ItersX w A V g it g₂ n P) (hsz : n ≤ sizeLine) (hbg : base.StaysIn g)
    (htests : ∀ C i v h₂ m₂ tk, P i v → Up base g h₂ → h₂.Ns C m₂ → m₂ x = some v →
      wpAny (model PG w) A (testsOf ifs (compEnv scope C env)) (fun ok s₃ => ok = p v ∧ ∃ h₃ tk₃, s₃ = S r h₃ tk₃ ∧ Up base h₂ h₃) NoE (S r h₂ tk))
    (helt : ∀ C i v h₂ m₂ tk, P i v → p v = true → Up base g h₂ → h₂.Ns C m₂ → m₂ x = some v →
      wpAny (model PG w) A (eval elt (compEnv scope C env)) (fun y s₃ => ∃ h₃ tk₃, s₃ = S r h₃ tk₃ ∧ Up base h₂ h₃ ∧ R (Free h₂) h₃ v y) NoE (S r h₂ tk))
    (hRR : ∀ D C h' tk m' ys (vs : List Value), g.get? D = none → g.get? C = none → D ≠ C → Up base g h' → h'.Ns C m' → h'.IsList D (List.toArray ys) → vs.length = n → (∀ j v, vs[j]? = some v → P j v) → All2 (R (FreeBut g D) h') (vs.filter p) ys →
      RR (.ref D) (compEnv scope C env) (.ok .next) (S r h' tk)) :
    wpAny (model PG w) A (newList []) (fun acc s₃ => wpAny (model PG w) A (newFunctionEnv scope env.globals [] [] env.qual none .none (some env)) (fun cenv s₄ =>
      codeAny (model PG w) A (.compStart (.ListComp elt [⟨.Name x px, iter, ifs, 0⟩] scope pos) 0 it acc { cenv with scope := scope }) (RR acc { cenv with scope := scope }) s₄) E s₃) E (S r g₂ tk0) := by
  obtain ⟨I, fp, wr, St, rfl, Wk, hst, hk, hfp, hwr, hnl, hnd⟩ := It
  refine wpAny_newObj_type (wpAny_newFunctionEnv hcell (by intro y hy; simp at hy) (fun h₁ hns₁ hsb₁ => ?_) hkind)
  dsimp only at hns₁ hsb₁ ⊢
  generalize hH2 : g₂.push { cls := .type "list", dict := none, data := .seq ([] : List Value).toArray } = H2 at hns₁ hsb₁ ⊢
  have hC : H2.objs.size = g₂.objs.size + 1 := by rw [← hH2, Heap.size_push]
  have hDC : g₂.objs.size ≠ H2.objs.size := by rw [hC]; exact Nat.ne_of_lt (Nat.lt_succ_self _)
  have hDf : g₂.objs.size ∉ fp := fun hm => Nat.lt_irrefl _ (hfp _ hm).2
  have hCf : H2.objs.size ∉ fp := fun hm => by have := (hfp _ hm).2; rw [hC] at this; exact Nat.lt_irrefl _ (Nat.lt_of_succ_lt this)
  have old : g₂.StaysIn h₁ := fun b o e => hsb₁.extBut b o (by rw [hC]; exact Nat.ne_of_lt (Nat.lt_succ_of_lt (Heap.lt_size e))) (Heap.get?_push_of_some _ (hH2 ▸ Heap.get?_push_of_some _ e))
  have hacc : h₁.IsList g₂.objs.size #[] := ⟨_, hsb₁.extBut _ _ hDC (Heap.get?_push_of_some _ (hH2 ▸ Heap.get?_push_size _ rfl)), rfl, 0, rfl⟩
  have hst₁ : St 0 h₁ := Wk.frame _ _ _ hst fun b _ o e => old b o e
  have fresh : ∀ a, g₂.objs.size ≤ a → g.get? a = none := fun a ha => by
    cases e : g.get? a with
    | none => rfl
    | some o' => exact absurd (Heap.lt_size (hk _ _ e)) (Nat.not_lt.mpr ha)
  have hgD := fresh g₂.objs.size (Nat.le_refl _)
  have hgC := fresh H2.objs.size (by rw [hC]; exact Nat.le_succ _)
  have loop : ∀ s₃ : Shared, s₃ = S r h₁ (tk0 + ([] : List (Str × Value)).length) →
      codeAny (model PG w) A (.compLoop (.ListComp elt [⟨.Name x px, iter, ifs, 0⟩] scope pos) 0 (.ref I) (.ref g₂.objs.size) (compEnv scope H2.objs.size env))
        (RR (.ref g₂.objs.size) (compEnv scope H2.objs.size env)) s₃ := by
    rintro s₃ rfl
    exact comp_loopX (cenv := compEnv scope H2.objs.size env) (g := g) Wk p R hR hx (by simp [compEnv, hkind]) hDC hDf hCf hgD hgC hwr hnl hnd hbg hst₁ hacc hns₁ (stays_trans hk old) hsz
      (fun i v h₂ m₂ tk hv k hn hm => htests _ i v h₂ m₂ tk hv k hn hm) (fun i v h₂ m₂ tk hv hpv k hn hm => helt _ i v h₂ m₂ tk hv hpv k hn hm)
      fun h' tk m' ys vs k hn hl hlen hP hF => hRR _ _ h' tk m' ys vs hgD hgC hDC k hn hl hlen hP hF
  exact codeAny_compStart_list (loop _ rfl) (Wk.self 0 _ _ _ hst₁ (loop _ rfl))

/-- a comprehension over one source, whose element leaves all lists alone -/
theorem compX {hz : Heap} {tz : Nat} {elt iter : Expr} {x : Str} {px : Pos} {ifs : List Expr} {scope : Scope} {pos : Pos} {Q : Value → Shared → Prop} (base : Heap)
    (p : Value → Bool) (R : (Addr → Prop) → Heap → Value → Value → Prop) (hR : Soft R)
    (hfree : ∀ y ∈ scope.names, y.2 ≠ .free) (hcell : ∀ y ∈ scope.names, y.2 ≠ .cell) (hkind : scope.kind = .function)
    (hnames : ∀ y ∈ scope.names, y.2 = .local → scope.names.lookup y.1 = some .local) (hx : scope.names.lookup x = some .local)
    (h : wpAny (model PG w) A (eval iter env) (fun xv s₁ => wpAny (model PG w) A (pyIter xv) (fun it s₂ => ∃ n P g g₂ V tk₂, s₂ = S r g₂ tk₂ ∧ ItersX w A V g it g₂ n P ∧ n ≤ sizeLine ∧ base.StaysIn g ∧
      (∀ C i v h₂ m₂ tk, P i v → Up base g h₂ → h₂.Ns C m₂ → m₂ x = some v →
        wpAny (model PG w) A (testsOf ifs (compEnv scope C env)) (fun ok s₃ => ok = p v ∧ ∃ h₃ tk₃, s₃ = S r h₃ tk₃ ∧ Up base h₂ h₃) NoE (S r h₂ tk)) ∧
      (∀ C i v h₂ m₂ tk, P i v → p v = true → Up base g h₂ → h₂.Ns C m₂ → m₂ x = some v →
        wpAny (model PG w) A (eval elt (compEnv scope C env)) (fun y s₃ => ∃ h₃ tk₃, s₃ = S r h₃ tk₃ ∧ Up base h₂ h₃ ∧ R (Free h₂) h₃ v y) NoE (S r h₂ tk)) ∧
      (∀ D h' tk ys (vs : List Value), g.get? D = none → Up base g h' → h'.IsList D (List.toArray ys) → vs.length = n → (∀ j v, vs[j]? = some v → P j v) → All2 (R (FreeBut g D) h') (vs.filter p) ys →
        Q (.ref D) (S r h' tk))) E s₁) E (S r hz tz))
    (hs : ∀ x, foldedSetIterable iter env x = pure x := by intro _; rfl) :
    wpAny (model PG w) A (eval (.ListComp elt [⟨.Name x px, iter, ifs, 0⟩] scope pos) env) Q E (S r hz tz) := by
  refine wpAny_ListComp hfree hkind hnames (wpAny_mono h (fun xv s₁ h₁ => wpAny_mono h₁ (fun it s₂ h₂ => ?_) fun _ _ e => e) fun _ _ e => e) hs
  obtain ⟨n, P, g, g₂, V, tk₂, rfl, It, hsz, hbg, ht, he, hQ⟩ := h₂
  refine comp_blockX (r := r) (g₂ := g₂) (tk0 := tk₂) (base := base) (RR := fun acc cenv r s' => ∃ m, s'.heap.Ns cenv.locals m ∧ ∀ h', Heap.SameBut cenv.locals s'.heap h' →
      match r with | .ok _ => Q acc { s' with heap := h' } | .error x => wpAny (model PG w) A (passOn "comprehension.variables-let-go" x cenv) Q E { s' with heap := h' }) p R hR hcell hkind hx It hsz hbg ht he ?_
  intro D C h' tk m' ys vs hD hC hDC k hn hl hlen hP hF
  refine ⟨m', hn, fun h'' hs'' => ?_⟩
  have lk : LK h' h'' := LK.of_same (fun xs => not_list_of_ns hn) hs''
  have k2 : Up base g h'' := (UpW.of_same (W := fun b => b = C) rfl hs'' k.2 (get?_none_of_stays hbg hC)).up_fresh k fun b q => q ▸ hC
  exact hQ D h'' tk ys vs hD k2 (lk _ _ hl) hlen hP (hF.imp fun _ _ r => hR _ _ _ _ _ _ (fun a xs ok l => ⟨ok, lk _ _ l⟩) r)

/-- `y = [.. for x in ..]` -/
theorem comp_assignX {hz : Heap} {tz : Nat} {elt iter : Expr} {x y : Str} {px py : Pos} {ifs : List Expr} {scope : Scope} {pos spos : Pos} {Q : Flow → Shared → Prop} (base : Heap)
    (p : Value → Bool) (R : (Addr → Prop) → Heap → Value → Value → Prop) (hR : Soft R)
    (hsw : swapsWith (.ListComp elt [⟨.Name x px, iter, ifs, 0⟩] scope pos) (some (.Name y py)) spos.line env = pure true)
    (hfree : ∀ y ∈ scope.names, y.2 ≠ .free) (hcell : ∀ y ∈ scope.names, y.2 ≠ .cell) (hkind : scope.kind = .function)
    (hnames : ∀ y ∈ scope.names, y.2 = .local → scope.names.lookup y.1 = some .local) (hx : scope.names.lookup x = some .local)
    (h : wpAny (model PG w) A (eval iter env) (fun xv s₁ => wpAny (model PG w) A (pyIter xv) (fun it s₂ => ∃ n P g g₂ V m tk₂, s₂ = S r g₂ tk₂ ∧ ItersX w A V g it g₂ n P ∧ n ≤ sizeLine ∧ base.StaysIn g ∧ base.get? env.locals = none ∧ g.Ns env.locals m ∧
      (∀ C i v h₂ m₂ tk, P i v → Up base g h₂ → h₂.Ns C m₂ → m₂ x = some v →
        wpAny (model PG w) A (testsOf ifs (compEnv scope C env)) (fun ok s₃ => ok = p v ∧ ∃ h₃ tk₃, s₃ = S r h₃ tk₃ ∧ Up base h₂ h₃) NoE (S r h₂ tk)) ∧
      (∀ C i v h₂ m₂ tk, P i v → p v = true → Up base g h₂ → h₂.Ns C m₂ → m₂ x = some v →
        wpAny (model PG w) A (eval elt (compEnv scope C env)) (fun y s₃ => ∃ h₃ tk₃, s₃ = S r h₃ tk₃ ∧ Up base h₂ h₃ ∧ R (Free h₂) h₃ v y) NoE (S r h₂ tk)) ∧
      (∀ D h' tk ys (vs : List Value), g.get? D = none → UpW (· = env.locals) base g h' → h'.Ns env.locals (fun z => if z = y then some (.ref D) else m z) → h'.IsList D (List.toArray ys) → vs.length = n → (∀ j v, vs[j]? = some v → P j v) → All2 (R (FreeBut g D) h') (vs.filter p) ys →
        Q .next (S r h' tk))) E s₁) E (S r hz tz))
    (hy : env.kindOf y = some .local := by rfl) (hp : (env.scope.kind == .class || (env.scope.kind == .module && env.locals != env.globals)) = false := by rfl)
    (hs : ∀ x, foldedSetIterable iter env x = pure x := by intro _; rfl) :
    wpAny (model PG w) A (exec (.Assign [.Name y py] (.ListComp elt [⟨.Name x px, iter, ifs, 0⟩] scope pos) spos) env) Q E (S r hz tz) := by
  rw [exec_Assign_Name_used _ _ _ _ hsw]
  refine wpAny_bind (wpAny_standAt (wpAny_bind ?_))
  show wpAny _ A (do let _ ← comprehension (.ListComp elt [⟨.Name x px, iter, ifs, 0⟩] scope pos) scope env _ (newList []) false (eval iter env) (some (assign (.Name y py) env))) _ _ (S r hz tz)
  refine wpAny_bind (wpAny_mono (wpAny_comprehension_use (Q := fun _ s' => Q .next s') rfl hs hfree hkind hnames (wpAny_mono h (fun xv s₁ h₁ => wpAny_mono h₁ (fun it s₂ h₂ => ?_) fun _ _ e => e) fun _ _ e => e))
    (fun _ s' hq => wpAny_pure (wpAny_pure hq)) fun _ _ e => e)
  obtain ⟨n, P, g, g₂, V, m, tk₂, rfl, It, hsz, hbg, hbL, hn, ht, he, hQ⟩ := h₂
  refine comp_blockX (r := r) (g₂ := g₂) (tk0 := tk₂) (base := base) (RR := fun acc cenv r s' => match r with
      | .ok _ => wpAny (model PG w) A (assign (.Name y py) env acc) (fun _ s'' => ∃ m, s''.heap.Ns cenv.locals m ∧ ∀ h', Heap.SameBut cenv.locals s''.heap h' → Q .next { s'' with heap := h' }) E s'
      | .error x => ∃ m, s'.heap.Ns cenv.locals m ∧ ∀ h', Heap.SameBut cenv.locals s'.heap h' → wpAny (model PG w) A (passOn "comprehension.variables-let-go" x cenv) (fun _ s' => Q .next s') E { s' with heap := h' }) p R hR hcell hkind hx It hsz hbg ht he ?_
  intro D C h' tk m' ys vs hD hC hDC k hnC hl hlen hP hF
  have hLC : env.locals ≠ C := by rintro rfl; obtain ⟨o, _, _, ho, _⟩ := hn; rw [hC] at ho; cases ho
  have hLD : env.locals ≠ D := by rintro rfl; obtain ⟨o, _, _, ho, _⟩ := hn; rw [hD] at ho; cases ho
  have hnL : h'.Ns env.locals m := k.ns hn fun q => q
  refine wpAny_assign_Name (wpAny_storeName_local hy hnL (fun h₂ hn₂ hs₂ => ?_) hp)
  have hnC₂ := hnC.sameBut hs₂ (Ne.symm hLC)
  refine ⟨m', hnC₂, fun h₃ hs₃ => ?_⟩
  have lk : LK h' h₃ := (LK.of_same (fun xs => not_list_of_ns hnL) hs₂).trans (LK.of_same (fun xs => not_list_of_ns hnC₂) hs₃)
  have k2 : UpW (· = env.locals) base g h₂ := k.up.trans (UpW.of_same rfl hs₂ k.2 hbL)
  have k3 : UpW (· = env.locals) base g h₃ := ⟨fun b o nb e => by
    obtain ⟨sl, e1, f1⟩ := k2.1 b o nb e
    exact ⟨sl, hs₃.extBut b _ (fun q => by rw [q] at e; exact absurd (hC.symm.trans e) (by simp)) e1, f1⟩,
    fun b o e => hs₃.extBut b o (fun q => by rw [q] at e; exact absurd ((get?_none_of_stays hbg hC).symm.trans e) (by simp)) (k2.2 b o e)⟩
  exact hQ D h₃ _ ys vs hD k3 (hn₂.sameBut hs₃ hLC) (lk _ _ hl) hlen hP (hF.imp fun _ _ r => hR _ _ _ _ _ _ (fun a xs ok l => ⟨ok, lk _ _ l⟩) r)
end
end Mine

namespace Mine

def boundD : Obj := { cls := .type "builtin_function_or_method", data := .fields #[.builtin "dict.fromkeys", .type "dict"] }
theorem fk_type : typeOf (.builtin "dict.fromkeys") = pure (.type "classmethod_descriptor") := by show builtinType _ = _; rw [builtinType_eq_fast]; kernel_rfl
theorem fk_entry : entryFor table "dict.fromkeys" = some Builtin.«dict.fromkeys» := entryFor_of_tree (by kernel_rfl)
theorem fk_entryL : entryFor table "dict.fromkeys.loop" = some Builtin.«dict.fromkeys.loop» := entryFor_of_tree (by kernel_rfl)
theorem fk_quiet {as : Args} : (Code.builtin "dict.fromkeys" as).quiet = true := Code.quiet_builtin _ (by decide +kernel)
theorem fk_plain : plainId "dict.fromkeys" = true := by decide +kernel
theorem fk_plainL : plainId "dict.fromkeys.loop" = true := by decide +kernel
theorem fk_isType : isType (.type "dict") = pure true := by first | rfl | kernel_rfl | (unfold isType; rw [isSubtype_type]; kernel_rfl)
theorem fk_owner : (kfb_private% "ownerAndName") "dict.fromkeys" = ("dict", "fromkeys") := by first | decide +kernel | kernel_rfl
theorem fk_check (a : Value) : checkBoundCall "dict.fromkeys" ⟨[.type "dict", a], []⟩ = pure () := by first | kernel_rfl | rfl
theorem fk_call0 : checkTypeCall "dict" ⟨[], []⟩ = pure () := by kernel_rfl
theorem fk_new0 : checkBuiltinCall "dict.__new__" ⟨[.type "dict"], []⟩ = pure () := by kernel_rfl
theorem fk_args0 (a : Value) : argsOk "dict.__init__" ⟨[a], []⟩ := by unfold argsOk; kernel_rfl
theorem bbDict : bootBuiltins (Str.ofString "dict") = some (.type "dict") := by decide +kernel

section
variable {w : World} {A : Around} {E : Value → Shared → Prop} {s r : Shared} {h : Heap} {tk : Nat} {env : Env}

theorem fk_get {M : Model} {P : Fin → Shared → Prop} (hP : P (.done (.ret (.ref s.heap.objs.size))) { s with heap := s.heap.push boundD }) :
    wpAny M A (Builtin.«classmethod_descriptor.__get__» ⟨[.builtin "dict.fromkeys", .none, .type "dict"], []⟩) P E s := by
  unfold Builtin.«classmethod_descriptor.__get__»
  refine wpAny_bind (wpAny_of_eq (a := (.builtin "dict.fromkeys", none, some (.type "dict"))) (by first | rfl | kernel_rfl) ?_)
  simp only [fk_owner]
  refine wpAny_bind (wpAny_of_eq (a := .type "dict") rfl ?_)
  refine wpAny_bind (wpAny_of_eq (a := true) fk_isType ?_)
  refine KFB.if_not rfl ?_
  refine wpAny_bind (wpAny_of_eq (a := true) PySem.F.kt_sub_dict ?_)
  refine KFB.if_not rfl ?_
  exact wpAny_bind (wpAny_newObj_type (wpAny_pure hP))

theorem fk_getm {pl : Sem Bool} {Q : Value × List Value → Shared → Prop} (X : (KP w).In h)
    (hQ : ∀ x h', h.StaysIn h' → h'.get? x = some boundD → Q (.ref x, []) (S r h' (tk + 1))) :
    wpAny (model PG w) A (getMethod (.type "dict") (Str.ofString "fromkeys") pl) Q E (S r h tk) := by
  have e : findCls (KP w) (.type "dict") (.type "type") (Str.ofString "fromkeys") = some (.get (.builtin "classmethod_descriptor.__get__") (.builtin "dict.fromkeys") .none (.type "dict")) := by rfl
  have X' : (KP w).In (S r h tk).heap := X
  have hstub : opaqueClassAbove (.type "dict") = pure none := by unfold opaqueClassAbove; dsimp only; rw [show Manifest.isStub "dict" = false by decide +kernel]; rfl
  have ht : typeOf (.type "dict") = pure (.type "type") := by first | rfl | kernel_rfl
  have L0 : Looks (model PG w) (S r h tk).heap (typeOf (.type "dict")) (.type "type") := Looks.of_pure ht
  have hg : findIn (KP w) (.type "type") "__getattribute__" = some (some (.builtin "type.__getattribute__")) := type_tga
  unfold getMethod specialOf
  refine wpAny_bind (wpAny_bind (L0.here ((looks_findIn X' hg).here ?_)))
  dsimp only
  rw [if_pos canon_tga]
  refine wpAny_bind (wpAny_mono (Q := fun v => Q (v, [])) (E := E) ?_ (fun _ _ z => wpAny_pure z) fun _ _ z => z)
  have LO : Looks (model PG w) (S r h tk).heap (opaqueClassAbove (.type "dict")) none := Looks.of_pure hstub
  refine cls_open X' LO L0 hg (looks_hook X' (r := none) (by rfl)) (by show subIn _ _ _ = _; rfl) e ?_
  show wpAny _ _ (holding [.builtin "dict.fromkeys"] (call (.builtin "classmethod_descriptor.__get__") [.builtin "dict.fromkeys", .none, .type "dict"]) >>= fun v => ret v) _ _ _
  refine wpAny_bind (wpAny_holding (wpAny_call_entry KFB.slot_get fk_type KFB.entry_get (fk_get ⟨_, rfl, wpAny_pure (wpAny_pure (hQ _ _ (stays_push _ _) (Heap.get?_push_size _ rfl)))⟩) (KFB.args_get _ _ _)))

theorem fk_callWith {M : Model} {pos : Pos} {u : Addr} {first : List Value} {a0 : Sem Value} {args : List (Bool × Sem Value)} {Q : Value → Shared → Prop} (hplain : ((false, a0) :: args).any (·.1) = false)
    (hq : wpAny M A (spliced ((false, a0) :: args)) (fun vs s₁ => s₁.heap.get? u = some boundD ∧ wpAny M A (call (.ref u) (first ++ vs)) Q E s₁) E s) : wpAny M A (callWith pos (.ref u) first ((false, a0) :: args) []) Q E s := by
  unfold callWith
  have h2 : wpAny M A (evalArgs (.ref u) true ((false, a0) :: args) []) (fun x s₁ => s₁.heap.get? u = some boundD ∧ wpAny M A (call (.ref u) (first ++ x.pos) x.kw) Q E s₁) E s := evalArgs_plain hq
  refine wpAny_bind (wpAny_holding (wpAny_mono h2 (fun x s₁ h₁ => wpAny_bind (wpAny_standAt ?_)) fun _ _ x => x))
  obtain ⟨ho, hcall⟩ := h₁
  simp only [hplain, List.any_nil, Bool.or_false]
  refine wpAny_bind (m := keeperOf (.ref u)) ?_
  unfold keeperOf
  refine wpAny_bind (wpAny_load ho ?_)
  simp only [boundD, show (Value.type "builtin_function_or_method" != Value.type "method") = true by decide, show (Value.type "builtin_function_or_method" == Value.type "builtin_function_or_method" || Value.type "builtin_function_or_method" == Value.type "method-wrapper") = true by decide, if_true]
  refine wpAny_pure ?_
  exact wpAny_bind (wpAny_mono hcall (fun r s₂ hr => wpAny_bind (wpAny_holding (wpAny_point (wpAny_pure hr)))) fun _ _ x => x)

/-- `dict()` -/
theorem fk_new {Q : Value → Shared → Prop} (hQ : Q (.ref h.objs.size) (S r (h.push { cls := .type "dict", data := .dict #[] }) tk)) : wpAny (model PG w) A (call (.type "dict") []) Q E (S r h tk) := by
  refine callType_codes (Q₁ := fun obj s₁ => obj = .ref h.objs.size ∧ s₁ = S r (h.push { cls := .type "dict", data := .dict #[] }) tk) PySem.F.kt_called_dict fk_call0 PySem.F.entry_dict_init ?_ ?_
  · refine codeAny_call_builtin PySem.F.kt_plain_dict_new PySem.F.kt_entry_dict_new (wpAny_of_eq fk_new0 ?_)
    have hsub := PySem.F.kt_sub_dict
    have hmro := PySem.F.kt_mro_dict
    unfold Builtin.«dict.__new__»
    wp_walk
    exact ⟨rfl, rfl⟩
  rintro obj s₁ ⟨rfl, rfl⟩
  have hnew : (h.push { cls := .type "dict", data := .dict #[] }).DictOf (intKind PG w) h.objs.size [] := Heap.DictOf.new h
  refine ⟨hnew.typeIs (s := S r _ tk), fk_args0 _, ?_⟩
  unfold Builtin.«dict.__init__»
  refine wpAny_bind ?_
  unfold Builtin.Dict.selfAndRest
  refine wpAny_bind (wpAny_notOrdered_dict (hnew.typeIs (s := S r _ tk)) ?_)
  show wpAny _ _ (pure (h.objs.size, [])) _ _ _
  refine wpAny_pure ?_
  show wpAny _ _ (Builtin.Dict.addKeywords h.objs.size [] >>= _) _ _ _
  exact wpAny_bind (wpAny_pure (wpAny_pure ⟨rfl, hQ⟩))
end
end Mine

namespace Mine

abbrev withNone (n : Int) : Int × Value := (n, .none)
theorem stored_none (acc : List Int) (k : Int) : stored (acc.map withNone) k .none = (dedAStep acc k).map withNone := by
  have e : ((acc.map withNone).any fun kv => decide (kv.1 = k)) = acc.any fun b => same b k := by
    rw [List.any_map]
    congr 1
    funext b
    rw [Bool.eq_iff_iff, same_true]
    simp
  unfold stored dedAStep
  rw [e]
  cases h : acc.any fun b => same b k with
  | true =>
    simp only [if_true, List.map_map]
    refine List.map_congr_left fun b _ => ?_
    show (if b = k then (b, Value.none) else (b, Value.none)) = _
    split <;> rfl
  | false => simp
theorem dedA_fold_len (l acc : List Int) : (l.foldl dedAStep acc).length ≤ acc.length + l.length := by
  induction l generalizing acc with
  | nil => simp
  | cons a l ih =>
    have h1 := ih (dedAStep acc a)
    have h2 : (dedAStep acc a).length ≤ acc.length + 1 := by unfold dedAStep; split <;> simp
    rw [List.foldl_cons, List.length_cons]; omega

section
variable {w : World} {A : Around} {E : Value → Shared → Prop} {s r : Shared} {h : Heap} {tk : Nat} {env : Env}

theorem fk_loop {I l d : Addr} {ns : List Int} {vs : List Value} {R : Result → Shared → Prop} (hh : A.handled = none) (hq : All2 IntV ns vs) (hIl : l ≠ I) (hdI : d ≠ I) (hdl : d ≠ l) (hsz : ns.length ≤ 1000) :
    ∀ k i (h : Heap) (tk : Nat) (acc : List Int), i ≤ vs.length → k = vs.length - i → acc.length ≤ i → h.IsListIter I l i → h.IsList l vs.toArray → h.DictOf (intKind PG w) d (acc.map withNone) →
      (∀ h' tk', (∀ b o, b ≠ I → b ≠ d → h.get? b = some o → h'.get? b = some o) → h'.DictOf (intKind PG w) d (((ns.drop i).foldl dedAStep acc).map withNone) → R (.ok (.ret (.ref d))) (S r h' tk')) →
      codeAny (model PG w) A (.builtin "dict.fromkeys.loop" ⟨[.ref d, .ref I, .none], []⟩) R (S r h tk) := by
  have hlen := hq.length
  intro k
  induction k with
  | zero =>
    intro i h tk acc hi hk hacc hit hl hd hR
    have hiv : i = vs.length := by omega
    refine codeAny_builtin fk_entryL ?_
    rw [Around.under_plainId fk_plainL _]
    unfold Builtin.«dict.fromkeys.loop»
    have Wk := Walks.list (prog := PG) (w := w) (A := A.in1) hh I l hIl vs.toArray
    refine wpAny_bind (Wk.done (S r h tk) _ _ ⟨by simpa [hiv] using hit, hl⟩ fun h₁ tk₁ hk₁ => ?_)
    refine wpAny_pure (hR h₁ tk₁ (fun b o hb _ e => hk₁ b o (by simpa using hb) e) ?_)
    rw [List.drop_eq_nil_of_le (by omega)]
    exact let ⟨o, es, ep, ho, rest⟩ := hd; ⟨o, es, ep, hk₁ d o (by simpa using hdI) ho, rest⟩
  | succ k ih =>
    intro i h tk acc hi hk hacc hit hl hd hR
    have hlt : i < vs.length := by omega
    refine codeAny_builtin fk_entryL ?_
    rw [Around.under_plainId fk_plainL _]
    unfold Builtin.«dict.fromkeys.loop»
    have Wk := Walks.list (prog := PG) (w := w) (A := A.in1) hh I l hIl vs.toArray
    refine wpAny_bind (Wk.item i (S r h tk) _ _ (by simpa using hlt) ⟨hit, hl⟩ fun v h₁ tk₁ hv hst₁ hk₁ => ?_)
    have hv' : vs[i]? = some v := by simpa using hv
    obtain ⟨n, hn, t, rfl⟩ := hq.flip.get hv'
    have hd₁ : h₁.DictOf (intKind PG w) d (acc.map withNone) := let ⟨o, es, ep, ho, rest⟩ := hd; ⟨o, es, ep, hk₁ d o (by simpa using hdI) ho, rest⟩
    refine wpAny_bind (wpAny_typeOf (hd₁.typeIs (s := S r h₁ tk₁)) ?_)
    rw [if_pos (by decide)]
    refine wpAny_bind (wpAny_of_eq (a := d) rfl (wpAny_bind (wpAny_holding ?_)))
    refine wpAny_dictSet_pairs (s := S r h₁ tk₁) (k := n) (intKind_is PG w n t) hd₁ (fun h₂ hd₂ hs₂ => ?_) (by rw [List.length_map, sizeLine_eq]; omega)
    rw [stored_none] at hd₂
    refine wpAny_pure ⟨plainId_quiet fk_plainL _, ?_⟩
    refine ih (i + 1) h₂ (tk₁ + 1) (dedAStep acc n) hlt (by omega) ?_ (hst₁.1.at fun o e => hs₂.extBut I o (Ne.symm hdI) e) (hst₁.2.extBut hs₂.extBut (Ne.symm hdl)) hd₂ fun h' tk' hk' hd' => ?_
    · have : (dedAStep acc n).length ≤ acc.length + 1 := by unfold dedAStep; split <;> simp
      omega
    · refine hR h' tk' (fun b o hbI hbd e => hk' b o hbI hbd (hs₂.extBut b o hbd (hk₁ b o (by simpa using hbI) e))) ?_
      have e1 : ns.drop i = n :: ns.drop (i + 1) := by
        have hi' : i < ns.length := by omega
        rw [List.drop_eq_getElem_cons hi']
        congr 1
        have := List.getElem?_eq_getElem hi'
        rw [hn] at this
        exact (Option.some.inj this).symm
      rw [e1, List.foldl_cons]
      exact hd'

theorem hash_list_none : typeLookup (.type "list") "__hash__" = pure (some .none) := by rw [typeLookup_type, builtinLookup_eq_fast]; kernel_rfl

/-- the first item is a list: it raises -/
theorem fk_loop_raises {I l d a : Addr} {vs : List Value} {xs : Array Value} {R : Result → Shared → Prop} (hh : A.handled = none) (hu : A.units + 1 < cLine) (hIl : l ≠ I) (hdI : d ≠ I) (hdl : d ≠ l)
    (hv0 : vs[0]? = some (.ref a)) (hit : h.IsListIter I l 0) (hl : h.IsList l vs.toArray) (ha : h.IsList a xs) (hd : h.DictOf (intKind PG w) d []) (haI : a ≠ I)
    (hR : ∀ h₁ h' tk' e, (∀ b o, b ≠ I → h.get? b = some o → h₁.get? b = some o) → Heap.NewExc h₁ h' e "TypeError" → R (.error (.ref e)) (S r h' tk')) :
    codeAny (model PG w) A (.builtin "dict.fromkeys.loop" ⟨[.ref d, .ref I, .none], []⟩) R (S r h tk) := by
  have hlt : 0 < vs.length := by
    cases vs with
    | nil => simp at hv0
    | cons _ _ => simp
  refine codeAny_builtin fk_entryL ?_
  rw [Around.under_plainId fk_plainL _]
  unfold Builtin.«dict.fromkeys.loop»
  have Wk := Walks.list (prog := PG) (w := w) (A := A.in1) hh I l hIl vs.toArray
  refine wpAny_bind (Wk.item 0 (S r h tk) _ _ (by simpa using hlt) ⟨hit, hl⟩ fun v h₁ tk₁ hv hst₁ hk₁ => ?_)
  have hv' : vs[0]? = some v := by simpa using hv
  rw [hv0] at hv'; cases hv'
  have hd₁ : h₁.DictOf (intKind PG w) d [] := let ⟨o, es, ep, ho, rest⟩ := hd; ⟨o, es, ep, hk₁ d o (by simpa using hdI) ho, rest⟩
  have ha₁ : h₁.IsList a xs := let ⟨o, ho, rest⟩ := ha; ⟨o, hk₁ a o (by simpa using haI) ho, rest⟩
  refine wpAny_bind (wpAny_typeOf (hd₁.typeIs (s := S r h₁ tk₁)) ?_)
  rw [if_pos (by decide)]
  refine wpAny_bind (wpAny_of_eq (a := d) rfl (wpAny_bind (wpAny_holding ?_)))
  unfold dictSet
  refine wpAny_holding (wpAny_bind ?_)
  have hT : (S r h₁ tk₁).TypeIs (.ref a) "list" := ha₁.typeIs (s := S r h₁ tk₁)
  show wpAny _ _ (pyHashByItsType (.ref a)) _ _ _
  unfold pyHashByItsType
  refine wpAny_bind (wpAny_cRoomFor hu ?_)
  refine wpAny_bind (wpAny_specialOf hT hash_list_none ?_)
  rw [if_pos (by decide)]
  refine wpAny_bind (wpAny_rule (wpAny_bind (wpAny_typeNameOf' hT (by decide) ?_)))
  refine wpAny_bind (wpAny_raiseErrorMade (A := A.in1) (s := S r h₁ tk₁) plainExc_TypeError hh (fun h' tk e hx => ?_) ?_)
  · exact hR h₁ h' tk e (fun b o hb e => hk₁ b o (by simpa using hb) e) hx
  · rw [sizeLine_eq]; decide +kernel
end
end Mine

namespace Mine

section
variable {w : World} {A : Around} {E : Value → Shared → Prop} {s r : Shared} {h : Heap} {tk : Nat} {env : Env}

theorem fk_call {x l : Addr} {vs : List Value} {Q : Value → Shared → Prop} (hx : h.get? x = some boundD) (hl : h.IsList l vs.toArray)
    (hq : ∀ d I h₂, h.StaysIn h₂ → h.objs.size ≤ d → h.get? I = none → d ≠ I → h₂.IsListIter I l 0 → h₂.IsList l vs.toArray → h₂.DictOf (intKind PG w) d [] →
      codeAny (model PG w) A (.builtin "dict.fromkeys.loop" ⟨[.ref d, .ref I, .none], []⟩) (wants Q E) (S r h₂ tk)) :
    wpAny (model PG w) A (call (.ref x) [.ref l]) Q E (S r h tk) := by
  refine wpAny_call (codeAny_of_tree ?_)
  show wpAny _ A.in1 (callAny (.ref x) ⟨[.ref l], []⟩) _ _ _
  simp only [callAny]
  refine wpAny_bind (wpAny_load (s := S r h tk) hx ?_)
  simp only [boundD, show (Value.type "builtin_function_or_method" == Value.type "method" || Value.type "builtin_function_or_method" == Value.type "builtin_function_or_method" || Value.type "builtin_function_or_method" == Value.type "method-wrapper") = true by decide, if_true]
  refine KFB.if_so (by decide) ?_
  refine wpAny_bind (wpAny_of_eq (a := ()) (fk_check _) ?_)
  refine wpAny_bind (wpAny_pure (wpAny_pure ?_))
  refine ⟨fk_quiet, codeAny_builtin fk_entry ?_⟩
  rw [Around.under_plainId fk_plain _]
  unfold Builtin.«dict.fromkeys»
  refine wpAny_bind (wpAny_of_eq (a := true) fk_isType ?_)
  refine KFB.if_not rfl ?_
  refine wpAny_bind (wpAny_of_eq (a := true) PySem.F.kt_sub_dict ?_)
  refine KFB.if_not rfl ?_
  refine KFB.if_not rfl ?_
  show wpAny _ _ (rule _ >>= _) _ _ _
  refine wpAny_bind (wpAny_rule (wpAny_bind (wpAny_pure ?_)))
  refine wpAny_bind (fk_new ?_)
  have hl₁ : (h.push { cls := .type "dict", data := .dict #[] }).IsList l vs.toArray := LK.of_stays (stays_push _ _) _ _ hl
  have hd₁ : (h.push { cls := .type "dict", data := .dict #[] }).DictOf (intKind PG w) h.objs.size [] := Heap.DictOf.new h
  refine wpAny_holding ?_
  refine wpAny_bind (wpAny_typeOf (hl₁.typeIs (s := S r _ tk)) ?_)
  refine wpAny_bind (wpAny_typeOf (hd₁.typeIs (s := S r _ tk)) ?_)
  refine KFB.if_not (by decide) ?_
  refine wpAny_bind (wpAny_typeOf (hd₁.typeIs (s := S r _ tk)) ?_)
  refine KFB.if_not (by decide) ?_
  refine wpAny_bind (wpAny_pyIter_list (s := S r _ tk) hl₁ ?_)
  refine wpAny_pure ⟨plainId_quiet fk_plainL _, ?_⟩
  refine hq h.objs.size _ _ (stays_trans (stays_push _ _) (stays_push _ _)) (Nat.le_refl _) (get?_ge (by rw [Heap.size_push]; exact Nat.le_succ _)) (by rw [Heap.size_push]; exact Nat.ne_of_lt (Nat.lt_succ_self _))
    ⟨_, Heap.get?_push_size _ rfl, rfl, rfl⟩ (LK.of_stays (stays_push _ _) _ _ hl₁) (hd₁.push _)

theorem fk_ints {x l : Addr} {ns : List Int} {vs : List Value} {Q : Value → Shared → Prop} (hh : A.handled = none) (hx : h.get? x = some boundD) (hl : h.IsList l vs.toArray) (hq : All2 IntV ns vs) (hsz : ns.length ≤ 1000)
    (hQ : ∀ d h' tk', h.StaysIn h' → h.objs.size ≤ d → h'.DictOf (intKind PG w) d ((dedA ns).map withNone) → Q (.ref d) (S r h' tk')) :
    wpAny (model PG w) A (call (.ref x) [.ref l]) Q E (S r h tk) := by
  refine fk_call hx hl fun d I h₂ k hds hI hdI hit hl₂ hd₂ => ?_
  have hd : h.get? d = none := get?_ge hds
  have hlI : l ≠ I := fun q => isList_some hl (q ▸ hI)
  have hdl : d ≠ l := fun q => isList_some hl (q ▸ hd)
  refine fk_loop hh hq hlI hdI hdl hsz _ 0 h₂ tk [] (Nat.zero_le _) rfl (Nat.zero_le _) hit hl₂ hd₂ fun h' tk' hk' hd' => ?_
  exact hQ d h' tk' (fun b o e => hk' b o (fun q => by rw [q, hI] at e; cases e) (fun q => by rw [q, hd] at e; cases e) (k b o e)) hds hd'

theorem fk_raises {x l a : Addr} {xs : Array Value} {vs : List Value} {Q : Value → Shared → Prop} (hh : A.handled = none) (hu : A.units + 1 < cLine) (hx : h.get? x = some boundD) (hl : h.IsList l vs.toArray) (hv0 : vs[0]? = some (.ref a)) (ha : h.IsList a xs)
    (hE : ∀ h' tk' e ob t, h.StaysIn h' → h.get? e = none → h'.get? e = some ob → ob.cls = .type "TypeError" → ob.data = .fields #[t, .none, .none, .none, .bool false, .none] → E (.ref e) (S r h' tk')) :
    wpAny (model PG w) A (call (.ref x) [.ref l]) Q E (S r h tk) := by
  refine fk_call hx hl fun d I h₂ k hds hI hdI hit hl₂ hd₂ => ?_
  have hd : h.get? d = none := get?_ge hds
  have hlI : l ≠ I := fun q => isList_some hl (q ▸ hI)
  have hdl : d ≠ l := fun q => isList_some hl (q ▸ hd)
  have haI : a ≠ I := fun q => isList_some ha (q ▸ hI)
  refine fk_loop_raises hh hu hlI hdI hdl hv0 hit hl₂ (LK.of_stays k _ _ ha) hd₂ haI fun h₁ h' tk' e k₁ hx => ?_
  have k' : h.StaysIn h' := fun b o eb => hx.keeps b o (k₁ b o (fun q => by rw [q, hI] at eb; cases eb) (k b o eb))
  obtain ⟨ob, t, he, hc, hdt⟩ := hx.there
  refine hE h' tk' e ob t k' ?_ he hc hdt
  cases q : h.get? e with
  | none => rfl
  | some o =>
    have := k₁ e o (fun z => by rw [z, hI] at q; cases q) (k e o q)
    rw [hx.new] at this; cases this
end
end Mine

namespace Mine

theorem ns_at {K : Frag} {h : Heap} {N : Addr} {mg : Str → Option Value} {n : Str} {v : Value} (X : K.In h) (G : h.Ns N mg) (e : nsIn K N n = some (some v)) : mg n = some v := by
  obtain ⟨o, es, ep, ho, hd, _, hf⟩ := G
  unfold nsIn at e
  split at e
  · rename_i c d es' n' sl q
    have := X _ _ q
    rw [ho] at this
    cases this
    cases hd
    rw [← hf n]
    unfold nsFind findBy
    obtain ⟨l⟩ := es
    rw [List.find?_toArray]
    split at e
    · rename_i e' h'
      simp only at h'
      rw [h']; exact Option.some.inj e
    · split at e <;> cases e
  · cases e
theorem kwd_ns (w : World) {h : Heap} (X : (KP w).In h) : ∃ m, h.Ns 15 m ∧ m (Str.ofString "unhashable_fallback") = some (.bool false) := by
  have e : nsOkIn (KP w) 15 = true := by kernel_rfl
  exact ⟨_, .of_isNs (isNs_of_in X e), ns_at X (.of_isNs (isNs_of_in X e)) rfl⟩
theorem binds_kw {s : Shared} {fd : FuncData} {T : Addr} {m : Str → Option Value} {a b : Str} {pa pb : Pos} {kd : List (Option PySem.Expr)} {x v : Value} (hab : (a == b) = false)
    (hn : s.heap.Ns T m) (hm : m b = some v) (hp : fd.params = { posonlyargs := [], args := [{ arg := a, annotation := none, pos := pa }], vararg := none, kwonlyargs := [{ arg := b, annotation := none, pos := pb }], kw_defaults := kd, kwarg := none, defaults := [] })
    (hd : fd.defaults = .none) (hk : fd.kwdefaults = .ref T) : BindsTo s fd ⟨[x], []⟩ [(a, x), (b, v)] := fun M A E Q hq => by
  unfold bindArgs
  rw [hp, hd, hk]
  have e0 : seqItems? Value.none = pure none := rfl
  have hba : ¬ b = a := fun q => by rw [q] at hab; simp at hab
  have hba2 : (b == a) = false := by rw [beq_eq_false_iff_ne]; exact hba
  simp [e0, hba]
  refine wpAny_bind (wpAny_nsGet hn ?_)
  rw [hm]
  simp [List.lookup, hba2]
  exact wpAny_pure hq
theorem bbTypeError : bootBuiltins (Str.ofString "TypeError") = some (.type "TypeError") := by decide +kernel

section
variable {w : World} {A : Around} {E : Value → Shared → Prop} {s r : Shared} {h : Heap} {tk : Nat} {env : Env}
theorem fk_callWith1 {M : Model} {pos : Pos} {u : Addr} {e : Expr} {Q : Value → Shared → Prop} (hs : starEach [e] env = [(false, eval e env)])
    (hq : wpAny M A (eval e env) (fun v s₁ => s₁.heap.get? u = some boundD ∧ wpAny M A (call (.ref u) [v]) Q E s₁) E s) : wpAny M A (callWith pos (.ref u) [] (backTo pos (starEach [e] env)) []) Q E s := by
  rw [hs]
  show wpAny M A (callWith pos (.ref u) [] [(false, eval e env)] []) Q E s
  refine fk_callWith rfl (Calls.spliced_cons (wpAny_mono hq (fun v s₁ h₁ => ?_) fun _ _ x => x))
  exact wpAny_pure h₁
/-- `dict.fromkeys(name)` -/
theorem fk_expr {x : Str} {l : Addr} {m : Str → Option Value} {p1 p2 p3 pos : Pos} {A' : Around} {pl : Sem Bool} {Q : Value → Shared → Prop} (C : Cx w A' h) (hn : h.Ns env.locals m) (hm : m x = some (.ref l))
    (hq : ∀ b h' tk', h.StaysIn h' → h'.get? b = some boundD → wpAny (model PG w) A (call (.ref b) [.ref l]) Q E (S r h' tk'))
    (hs : starEach [Expr.Name x p3] env = [(false, eval (.Name x p3) env)])
    (hc : ∀ (Q : Value → Shared → Prop) (s : Shared), wpAny (model PG w) A (eval (.Name (Str.ofString "dict") p1) env) (fun ov s₁ => wpAny (model PG w) A (getMethod ov (Str.ofString "fromkeys") pl)
        (fun fx s₂ => wpAny (model PG w) A (callWith pos fx.1 fx.2 (backTo pos (starEach [.Name x p3] env)) []) Q E s₂) E s₁) E s →
      wpAny (model PG w) A (eval (.Call (.Attribute (.Name (Str.ofString "dict") p1) (Str.ofString "fromkeys") p2) [.Name x p3] [] pos) env) Q E s)
    (hg : env.globals = mainGlobals := by rfl) (hb : env.builtins = builtinsNs := by rfl) (hk : env.scope.kind = .function := by rfl) (hx : env.kindOf (Str.ofString "dict") = some .globalImplicit := by rfl)
    (hl : env.kindOf x = some .local := by rfl) (hd : (x == ("__debug__" : Str)) = false := by decide) :
    wpAny (model PG w) A (eval (.Call (.Attribute (.Name (Str.ofString "dict") p1) (Str.ofString "fromkeys") p2) [.Name x p3] [] pos) env) Q E (S r h tk) := by
  refine hc _ _ (nmB C rfl bbDict (by decide) ?_ hg hb hk hx)
  refine fk_getm C.X fun b h₁ k₁ hb₁ => ?_
  have hn₁ : (S r h₁ (tk + 1)).heap.Ns env.locals m := hn.keeps k₁
  refine fk_callWith1 hs ?_
  exact nmL hn₁ hm ⟨hb₁, hq b h₁ _ k₁ hb₁⟩ hk hl hd
end

theorem kp_size {w : World} {h : Heap} (X : (KP w).In h) : 84 < h.objs.size := by
  have e : ∃ o, (KP w).lookup 84 = some o := ⟨_, rfl⟩
  obtain ⟨o, e⟩ := e
  exact Heap.lt_size (X _ _ e)
/-- `_deduplicate` of numbers: a dict whose keys are the different ones -/
theorem dedupI_spec (w : World) {l : Addr} {ns : List Int} {vs : List Value} {h : Heap} (hl : h.IsList l vs.toArray) (hq : All2 IntV ns vs) (hsz : ns.length ≤ 1000) :
    Spec w 2 22 [.ref l] [] h (fun h' r => ∃ d, r = .ref d ∧ 84 < d ∧ h.get? d = none ∧ h'.DictOf (intKind PG w) d ((dedA ns).map withNone)) := by
  intro A r tk Q E C hh hd hu ret
  have hrl : recursionLimit = 1000 := rfl
  obtain ⟨m15, G, hm⟩ := kwd_ns w C.X
  refine enter C (by omega) (f := 22) (binds := [(Str.ofString "params", .ref l), (Str.ofString "unhashable_fallback", .bool false)]) rfl rfl (binds_kw (by decide) G hm rfl rfl rfl) rfl (fun L h₁ tk₁ F push => ?_)
  refine wpAny_execs_cons (wpAny_Try_except ?_)
  refine wpAny_execs_cons (wpAny_Return_some ?_)
  have C₁ := push _ _ F
  refine fk_expr C₁ F.ns rfl (fun b h₂ tk₂ k₂ hb₂ => ?_) rfl (fun Q s h => MethodCall_ h)
  refine fk_ints hh hb₂ (LK.of_stays (stays_trans F.keep k₂) _ _ hl) hq hsz fun d h' tk' k' hd' hD => ?_
  exact ret _ h' tk' (stays_trans F.keep (stays_trans k₂ k')) ⟨d, rfl, Nat.lt_of_lt_of_le (kp_size (C₁.X.keeps k₂)) hd', get?_none_of_stays (stays_trans F.keep k₂) (get?_ge hd'), hD⟩

/-- `_deduplicate([], unhashable_fallback=True)` -/
theorem dedup0_spec (w : World) {l : Addr} {h : Heap} (hl : h.IsList l #[]) :
    Spec w 2 22 [.ref l] [(Str.ofString "unhashable_fallback", .bool true)] h (fun h' r => ∃ d, r = .ref d ∧ 84 < d ∧ h.get? d = none ∧ h'.DictOf (intKind PG w) d []) := by
  intro A r tk Q E C hh hd hu ret
  have hrl : recursionLimit = 1000 := rfl
  refine enter C (by omega) (f := 22) (binds := [(Str.ofString "params", .ref l), (Str.ofString "unhashable_fallback", .bool true)]) rfl rfl (BindsTo.of_eq rfl) rfl (fun L h₁ tk₁ F push => ?_)
  refine wpAny_execs_cons (wpAny_Try_except ?_)
  refine wpAny_execs_cons (wpAny_Return_some ?_)
  have C₁ := push _ _ F
  refine fk_expr C₁ F.ns rfl (fun b h₂ tk₂ k₂ hb₂ => ?_) rfl (fun Q s h => MethodCall_ h)
  refine fk_ints (ns := []) (vs := []) hh hb₂ (LK.of_stays (stays_trans F.keep k₂) _ _ hl) .nil (Nat.zero_le _) fun d h' tk' k' hd' hD => ?_
  exact ret _ h' tk' (stays_trans F.keep (stays_trans k₂ k')) ⟨d, rfl, Nat.lt_of_lt_of_le (kp_size (C₁.X.keeps k₂)) hd', get?_none_of_stays (stays_trans F.keep k₂) (get?_ge hd'), hD⟩
end Mine

namespace Mine

section
variable {w : World} {A : Around} {E : Value → Shared → Prop} {s r : Shared} {h base : Heap} {tk : Nat} {env : Env}

theorem caughtX {X : String} {x : Str} {outer : List Env} {L e : Addr} {ob : Obj} {t : Value} {np pos : Pos} {b₀ : Stmt} {suite : List Stmt} {rest : List ExceptHandler} {Q : Flow → Shared → Prop}
    (C : CxX w A base h) (hfr : A.frames = some (env :: outer)) (hf : env.frame = some L) (he : h.get? e = some ob) (hc : ob.cls = .type X) (hd : ob.data = .fields #[t, .none, .none, .none, .bool false, .none]) (hb : base.get? e = none)
    (hv : bootBuiltins x = some (.type X)) (hx : nsIn (KP w) mainGlobals x = some none) (hxn : x ≠ "__name__")
    (hexc : isSubtype (.type X) (.type "BaseException") = pure true) (hnt : isSubtype (.type ((Manifest.find? X).elim "type" fun y => y.metatype)) (.type "tuple") = pure false) (hsub : isSubtype (.type X) (.type X) = pure true)
    (k : ∀ h' T, h.get? T = none → T ≠ e → UpW (fun b => b = e ∨ b = T) base h h' → ExcAt h' e → wpAny (model PG w) (A.mark (some (.ref e))) (execs (b₀ :: suite) env) Q NoE (S r h' tk))
    (hg : env.globals = mainGlobals := by rfl) (hbl : env.builtins = builtinsNs := by rfl) (hk : env.scope.kind = .function := by rfl) (hxk : env.kindOf x = some .globalImplicit := by rfl) (hdb : (x == ("__debug__" : Str)) = false := by decide) :
    wpAny (model PG w) A (noteFrame (.ref e) env) (fun _ s₂ => wpAny (model PG w) A (setFlight (.ref e) none) (fun _ s₃ => wpAny (model PG w) A (handleBy (.ref e) env (.ExceptHandler (some (.Name x np)) none (b₀ :: suite) pos :: rest)) Q E s₃) E s₂) E (S r h tk) := by
  have ff : FF h base (env :: outer) := by
    obtain ⟨o', ho', f⟩ := C.F
    rw [hfr] at ho'; cases ho'; exact f
  refine noteFirst (s := S r h tk) hfr ff hf C.K he hd rfl hb fun h₁ T u₁ H₁ hT => ?_
  have hbT : base.get? T = none := get?_none_of_stays C.K hT
  refine flightOff (s := S r h₁ tk) H₁ u₁.2 hbT fun h₂ u₂ H₂ => ?_
  rw [hc] at H₂
  refine handled_here (s := S r h₂ tk) (X := X) (Tn := X) H₂ u₂.2 hbT hexc hnt hsub (fun Q' q => ?_) fun h₃ u₃ H₃ => ?_
  · have cx : Cx w A h₂ := by
      obtain ⟨p, l, mg, mb, T0⟩ := C.T
      refine ⟨C.X.keeps u₂.2, ⟨p, l, mg, mb, T0.keeps u₂.2⟩, base, env :: outer, hfr, u₂.2, ?_⟩
      refine ff.fun.of_keeps fun b o e1 nf => ?_
      have hbe : b ≠ e := fun q => by rw [q, he] at e1; cases e1; exact nf _ hd
      have hbT' : b ≠ T := fun q => by rw [q, hT] at e1; cases e1
      obtain ⟨sl, e2, _⟩ := u₁.1 b o hbe e1
      obtain ⟨sl2, e3, _⟩ := u₂.1 b _ hbT' e2
      exact ⟨_, e3, rfl⟩
    exact nmB (A' := A) cx hx hv hxn q hg hbl hk hxk hdb
  · have u : UpW (fun b => b = e ∨ b = T) base h h₃ := ((u₁.mono fun b q => .inl q).trans (u₂.mono fun b q => .inr q)).trans (u₃.mono fun b q => .inr q)
    exact k h₃ T hT H₃.ne u H₃.exc
end

/-- `_deduplicate(rows, unhashable_fallback=True)` of rows, some -/
theorem dedupT_spec (w : World) {l : Addr} {ts : List Tree} {vs : List Value} {base h : Heap} {ok : Addr → Prop} (hl : h.IsList l vs.toArray) (hq : All2 (TreeAt h ok) ts vs) (hne : vs ≠ []) (hsz : ts.length ≤ 1000) (hht : ∀ t ∈ ts, t.ht ≤ 10) :
    SpecX w 4 22 [.ref l] [(Str.ofString "unhashable_fallback", .bool true)] base h (fun h' r => ∃ D ys, r = .ref D ∧ h.get? D = none ∧ h'.PlainList D (List.toArray ys) ∧ All2 (TreeAt h' ok) (dedA ts) ys) := by
  intro A r tk Q E C hh hd hu ret
  have hrl : recursionLimit = 1000 := rfl
  have hcl : cLine = 9900 := rfl
  obtain ⟨v0, hv0⟩ : ∃ v0, vs[0]? = some v0 := by cases vs with | nil => exact absurd rfl hne | cons v _ => exact ⟨v, rfl⟩
  obtain ⟨t0, ht0, hv0t⟩ := hq.flip.get hv0
  obtain ⟨a0, rfl⟩ := hv0t.ref
  obtain ⟨outer, hfr, ff⟩ := C.F
  refine enterX C (by omega) (f := 22) (binds := [(Str.ofString "params", .ref l), (Str.ofString "unhashable_fallback", .bool true)]) rfl rfl (BindsTo.of_eq rfl) rfl (fun L h₁ tk₁ F push => ?_)
  refine wpAny_execs_cons (wpAny_Try_except ?_)
  refine wpAny_execs_cons (wpAny_Return_some ?_)
  have C₁ := push _ _ F
  have lk₁ := F.up.lk0
  refine fk_expr C₁.cx F.ns rfl (fun b h₂ tk₂ k₂ hb₂ => ?_) rfl (fun Q s h => MethodCall_ h)
  have F₂ := F.stays k₂
  have lk₂ := F₂.up.lk0
  have ha0 : ∃ xs, h₂.IsList a0 xs := by
    cases t0 with | node ks => obtain ⟨a', ws, e, _, l', _⟩ := treeAt_iff.mp hv0t; cases e; exact ⟨_, lk₂ _ _ l'⟩
  obtain ⟨xs, ha0⟩ := ha0
  refine fk_raises hh (by simp only [Around.deeper]; omega) hb₂ (lk₂ _ _ hl) hv0 ha0 fun h₃ tk₃ e ob t k₃ hne₃ he hc hdt => ?_
  have F₃ := F₂.stays k₃
  have C₃ := push _ _ F₃
  have hbe : base.get? e = none := get?_none_of_stays F₂.up.2 hne₃
  have hhe : h.get? e = none := F₂.up.free hne₃
  refine caughtX (X := "TypeError") C₃ (Around.frames_deeper hfr) rfl he hc hdt hbe bbTypeError rfl (by decide) PySem.F.isExc_TypeError PySem.F.notTuple_TypeError (by rw [isSubtype_type]; kernel_rfl) fun h₄ T hT hTe u₄ hex => ?_
  have hhT : h.get? T = none := F₃.up.free hT
  have hLe : L ≠ e := fun q => by have := F₂.ns; obtain ⟨o, _, _, ho, _⟩ := this; rw [q, hne₃] at ho; cases ho
  have hLT : L ≠ T := fun q => by have := F₃.ns; obtain ⟨o, _, _, ho, _⟩ := this; rw [q, hT] at ho; cases ho
  have hn₄ := u₄.ns F₃.ns (fun q => q.elim hLe hLT)
  have F₄ := F₃.kp u₄ hn₄ fun b q => q.elim (fun q => q ▸ hhe) fun q => q ▸ hhT
  have C₄ := push _ _ F₄
  refine wpAny_execs_cons (wpAny_If (isTrue_not (isTrue_plain (nmL hn₄ rfl (wpAny_truthy_bool ?_)))))
  refine wpAny_execs_nil ?_
  refine wpAny_execs_cons (wpAny_Return_some ?_)
  have cx₄ : Cx w ((A.deeper _).mark (some (.ref e))) h₄ := ⟨C₄.cx.X, C₄.cx.T, let ⟨b, o, B⟩ := C₄.cx.B; ⟨b, o, B.stack, B.stays, B.frames⟩⟩
  refine call1 cx₄ rfl rfl (nmL hn₄ rfl ⟨cx₄.X, ?_⟩)
  have lk₄ := F₄.up.lk0
  have hq₄ : All2 (TreeAt h₄ ok) ts vs := hq.imp fun _ _ z => z.lk lk₄
  have hqa : All2 (TreeAt h₄ Any) ts vs := hq₄.imp fun _ _ z => z.any
  refine dedup_spec w (eT h₄) vs h₄ l (lk₄ _ _ hl) (by rw [← hq.length]; exact hsz) (eqs_trees hqa hht) _ _ _ _ _ cx₄ (.inr ⟨e, rfl, hex⟩) (by simp only [Around.deeper, Around.mark]; omega) (by simp only [Around.deeper, Around.mark]; omega) ?_
  rintro v h₅ tk₅ k₅ ⟨D, rfl, hD, hp⟩
  refine ret _ h₅ tk₅ (F₄.stays k₅).up ⟨D, _, rfl, F₄.up.free hD, hp, ?_⟩
  have q := all2_ded (R := TreeAt h₄ ok) (e := eT h₄) (fun a b y x ra rb => eT_same ra.any rb.any) hq₄
  exact q.imp fun _ _ z => z.lk (LK.of_stays k₅)
end Mine

namespace Mine

theorem perm_map_inv {α β : Type} {f : α → β} : ∀ {a b : List β}, a.Perm b → ∀ l : List α, b = l.map f → ∃ l' : List α, l'.Perm l ∧ a = l'.map f := by
  intro a b h
  induction h with
  | nil => intro l e; exact ⟨l, .refl _, e⟩
  | cons x _ ih =>
    intro l e
    cases l with
    | nil => simp at e
    | cons y l =>
      simp only [List.map_cons, List.cons.injEq] at e
      obtain ⟨l', p, e'⟩ := ih l e.2
      exact ⟨y :: l', p.cons y, by rw [List.map_cons, ← e', e.1]⟩
  | swap x y l0 =>
    intro l e
    match l, e with
    | u :: v :: l, e =>
      simp only [List.map_cons, List.cons.injEq] at e
      exact ⟨v :: u :: l, .swap _ _ _, by rw [List.map_cons, List.map_cons, ← e.2.2, e.1, e.2.1]⟩
  | trans _ _ ih1 ih2 =>
    intro l e
    obtain ⟨l1, p1, e1⟩ := ih2 l e
    obtain ⟨l2, p2, e2⟩ := ih1 l1 e1
    exact ⟨l2, p2.trans p1, e2⟩
theorem all2_zip {α β : Type} {R : α → β → Prop} {as : List α} {bs : List β} (h : All2 R as bs) : ∀ p ∈ as.zip bs, R p.1 p.2 := by
  induction h with
  | nil => intro p hp; simp at hp
  | cons x _ ih =>
    intro p hp
    rw [List.zip_cons_cons] at hp
    rcases List.mem_cons.mp hp with rfl | hp
    · exact x
    · exact ih p hp
theorem all2_unzip {α β : Type} {R : α → β → Prop} : ∀ {l : List (α × β)}, (∀ p ∈ l, R p.1 p.2) → All2 R (l.map Prod.fst) (l.map Prod.snd)
  | [], _ => .nil
  | p :: l, h => .cons (h p (.head _)) (all2_unzip fun q hq => h q (.tail _ hq))

theorem CxX.in1 {w : World} {A : Around} {base h : Heap} (C : CxX w A base h) : CxX w A.in1 base h := ⟨C.X, C.T, C.K, C.F⟩
theorem CxX.kpL {w : World} {A : Around} {base h h' : Heap} {L : Addr} {m : Str → Option Value} (C : CxX w A base h) (k : UpW (· = L) base h h') (hn : h'.Ns L m) : CxX w A base h' where
  X := C.X
  T := C.T
  K := k.2
  F := by
    obtain ⟨outer, hf, ff⟩ := C.F
    refine ⟨outer, hf, fun e he => ?_⟩
    obtain ⟨hk, L', m', hf', hb, hn'⟩ := ff e he
    by_cases q : L' = L
    · subst q; exact ⟨hk, L', m, hf', hb, hn⟩
    · exact ⟨hk, L', m', hf', hb, k.ns hn' q⟩

noncomputable def allBut (h : Heap) (L : Addr) : List (Addr × Obj) :=
  (List.range h.objs.size).filterMap fun b => if b = L then none else (h.get? b).map fun o => (b, o)
theorem mem_allBut {h : Heap} {L b : Addr} {o : Obj} : (b, o) ∈ allBut h L ↔ b ≠ L ∧ h.get? b = some o := by
  unfold allBut
  rw [List.mem_filterMap]
  constructor
  · rintro ⟨b', hb', e⟩
    by_cases q : b' = L
    · rw [if_pos q] at e; cases e
    · rw [if_neg q] at e
      cases g : h.get? b' with
      | none => rw [g] at e; cases e
      | some o' => rw [g] at e; cases e; exact ⟨q, g⟩
  · rintro ⟨q, g⟩
    refine ⟨b, List.mem_range.mpr (Heap.lt_size g), ?_⟩
    rw [if_neg q, g]; rfl

theorem bbSorted : bootBuiltins (Str.ofString "sorted") = some (.builtin "sorted") := by decide +kernel

section
variable {w : World} {A : Around} {E : Value → Shared → Prop} {s r : Shared} {h base : Heap} {tk : Nat} {env : Env}

theorem sorted_num {L l : Addr} {m : Str → Option Value} {ts : List Tree} {vs : List Value} {ok : Addr → Prop} {Q : Value → Shared → Prop} (hh : A.handled = none) (C : CxX w A base h) (hn : h.Ns L m) (hbL : base.get? L = none)
    (hl : h.IsList l vs.toArray) (hq : All2 (TreeAt h ok) ts vs) (hht : ∀ t ∈ ts, t.ht ≤ 4) (h64 : ts.length < 64) (hd : A.depth + 12 < 600) (hu : A.units + 100 < 9000)
    (hQ : ∀ D h' tk' us ys, UpW (· = L) base h h' → h'.Ns L m → h.get? D = none → h'.IsList D (List.toArray ys) → us.Perm ts → us.Pairwise (fun a b => a.num ≤ b.num) → All2 (TreeAt h' ok) us ys → Q (.ref D) (S r h' tk')) :
    wpAny (model PG w) A (call (.builtin "sorted") [.ref l] [(Str.ofString "key", .ref 62)]) Q E (S r h tk) := by
  have hlen := hq.length
  have F : Fr (⟨#[], {}⟩ : Heap) L h m := ⟨hn, fun b o e => absurd (Heap.lt_size e) (by simp), Nat.zero_le _⟩
  have N : News (⟨#[], {}⟩ : Heap) L h (allBut h L) := fun p hp => ⟨(mem_allBut.mp hp).2, (mem_allBut.mp hp).1, get?_ge (Nat.zero_le _)⟩
  have kpOf : ∀ {h' : Heap} {own : List (Addr × Obj)}, News (⟨#[], {}⟩ : Heap) L h' own → (∀ p ∈ allBut h L, p ∈ own) → Kp (· = L) h h' := fun N' sub b o nb e => (N' (b, o) (sub _ (mem_allBut.mpr ⟨nb, e⟩))).1
  have hbW : ∀ b, b = L → base.get? b = none := fun b q => q ▸ hbL
  have lkOf : ∀ {h' : Heap}, Kp (· = L) h h' → LK h h' := fun k => LK.of_kp k fun b q xs => q ▸ not_list_of_ns hn
  refine ksk_sorted (s := S r h tk) (b := false) (kz := ts.map fun t => (t.num : Int)) F N hl (by rw [List.length_map, hlen]) (by omega) (ksk_s1 _ _) (fun _ => ksk_l1 _ _) (fun _ => ksk_t1 _ _) (fun i v k hv hk h₁ tk₁ own F₁ N₁ => ?_) fun D h₁ tk₁ out c F₁ N₁ l1 hout => ?_
  · have kp := kpOf N₁ fun p hp => List.mem_append_left _ hp
    obtain ⟨t, ht, htv⟩ := hq.flip.get hv
    have hk' : k = (t.num : Int) := by
      rw [List.getElem?_map, ht] at hk
      exact (Option.some.inj hk).symm
    subst hk'
    have C₁ : CxX w A base h₁ := C.kpL (UpW.of_kp kp C.K hbW) F₁.ns
    refine number_spec w t h₁ v (hht t (List.mem_of_getElem? ht)) (htv.any.lk (lkOf kp)) A.in1.in1 _ _ _ _ C₁.in1.in1.cx hh ?_ ?_ ?_
    · have := hht t (List.mem_of_getElem? ht); simp only [Around.in1]; omega
    · have := hht t (List.mem_of_getElem? ht); simp only [Around.in1]; omega
    · rintro v' h₂ tk₂ k₂ ⟨t', rfl⟩
      exact ⟨h₂, tk₂, t', rfl, rfl, F₁.keeps k₂, fun p hp => ⟨k₂ _ _ (N₁ p hp).1, (N₁ p hp).2⟩⟩
  · have kp := kpOf N₁ fun p hp => .tail _ hp
    have hD := N₁ _ (.head _)
    have lk := lkOf kp
    have hDn : h.get? D = none := by
      cases q : h.get? D with
      | none => rfl
      | some o => exact absurd (l1 (D, o) (mem_allBut.mpr ⟨hD.2.1, q⟩)) (Nat.lt_irrefl _)
    obtain ⟨ps, hp, ho, hs⟩ := hout
    have e1 : (ts.map fun t => (t.num : Int)).zip vs = (ts.zip vs).map fun q => ((q.1.num : Int), q.2) := by
      rw [List.zip_map_left]; rfl
    obtain ⟨qs, hqs, rfl⟩ := perm_map_inv hp _ e1
    have hz := all2_zip hq
    have hmem : ∀ p ∈ qs, TreeAt h ok p.1 p.2 := fun p hp' => hz p (hqs.mem_iff.mp hp')
    have hus : (qs.map Prod.fst).Perm ts := by
      have := hqs.map Prod.fst
      rwa [List.map_fst_zip (by omega)] at this
    refine hQ D h₁ tk₁ (qs.map Prod.fst) (qs.map Prod.snd) (UpW.of_kp kp C.K hbW) F₁.ns hDn ?_ hus ?_ ?_
    · refine ⟨_, hD.1, rfl, c, ?_⟩
      have : out = (qs.map Prod.snd).toArray := by
        rw [← Array.toArray_toList (xs := out), ho]; simp [List.map_map, Function.comp_def]
      rw [this]
    · rw [List.pairwise_map] at hs ⊢
      exact hs.imp fun h => by simpa using h
    · exact (all2_unzip (R := TreeAt h ok) hmem).imp fun _ _ z => z.lk lk
end
end Mine

namespace Mine

theorem testBit_two_pow' (a b : Nat) : (2 ^ a).testBit b = decide (a = b) := Nat.testBit_two_pow
theorem nums_bit : ∀ (ks : List Tree) (p : Nat), (nums ks).testBit p = true ↔ ∃ k ∈ ks, k.num = p
  | [], p => by simp [nums]
  | k :: ks, p => by
    rw [nums, Nat.testBit_or, Bool.or_eq_true, nums_bit ks p, testBit_two_pow', decide_eq_true_iff]
    simp
theorem testBit_lt_bits {n p : Nat} (h : n.testBit p = true) : p < Builtin.Int.intBits (n : Int) := by
  rw [intBits_nat]
  split
  · rename_i h0; subst h0; simp at h
  · exact lt_of_testBit h Nat.lt_log2_self
theorem mem_bits {n p : Nat} : p ∈ bits n ↔ n.testBit p = true := by
  unfold bits
  rw [List.mem_filter, List.mem_range]
  exact ⟨fun h => h.2, fun h => ⟨testBit_lt_bits h, h⟩⟩
theorem bits_sorted (n : Nat) : (bits n).Pairwise (· < ·) := by
  unfold bits
  exact List.Pairwise.filter _ List.pairwise_lt_range
theorem nat_ext {a b : Nat} (h : ∀ p, a.testBit p = true ↔ b.testBit p = true) : a = b := Nat.eq_of_testBit_eq fun p => by rw [Bool.eq_iff_iff]; exact h p
theorem bits_lt {d n p : Nat} (hn : n < bnd (d + 1)) (hp : p ∈ bits n) : p < bnd d := lt_of_testBit (mem_bits.mp hp) hn
theorem num_rowF : ∀ d n, n < bnd d → (rowF d n).num = n
  | 0, n, h => by have : bnd 0 = 1 := rfl; rw [rowF, Tree.num, nums]; omega
  | d + 1, n, h => by
    rw [rowF, Tree.num]
    refine nat_ext fun p => ?_
    rw [nums_bit]
    constructor
    · rintro ⟨k, hk, e⟩
      obtain ⟨q, hq, rfl⟩ := List.mem_map.mp hk
      rw [num_rowF d q (bits_lt h hq)] at e
      subst e
      exact mem_bits.mp hq
    · intro hp
      have hp' := mem_bits.mpr hp
      exact ⟨_, List.mem_map.mpr ⟨p, hp', rfl⟩, num_rowF d p (bits_lt h hp')⟩
theorem hts_le : ∀ {ks : List Tree} {n : Nat}, (∀ k ∈ ks, k.ht + 1 ≤ n) → hts ks ≤ n
  | [], _, _ => Nat.zero_le _
  | k :: ks, n, h => by rw [hts]; exact Nat.max_le.mpr ⟨h k (.head _), hts_le fun k' hk => h k' (.tail _ hk)⟩
theorem ht_rowF : ∀ d n, (rowF d n).ht ≤ d
  | 0, n => by rw [rowF, Tree.ht, hts]; exact Nat.le_refl _
  | d + 1, n => by
    rw [rowF, Tree.ht]
    refine hts_le fun k hk => ?_
    obtain ⟨q, _, rfl⟩ := List.mem_map.mp hk
    have := ht_rowF d q
    omega
theorem num_bnd : ∀ (d : Nat) (t : Tree), t.ht ≤ d → t.num < bnd d
  | 0, .node ks, h => by
    rw [Tree.ht] at h
    rw [hts_zero h]
    show nums [] < 1
    rw [nums]; exact Nat.one_pos
  | d + 1, .node ks, h => by
    rw [Tree.ht] at h
    exact nums_lt fun k hk => num_bnd d k (ht_le_of_hts h k hk)

theorem sorted_ext : ∀ {a b : List Nat}, a.Pairwise (· < ·) → b.Pairwise (· < ·) → (∀ x, x ∈ a ↔ x ∈ b) → a = b
  | [], [], _, _, _ => rfl
  | [], y :: b, _, _, h => by have := (h y).mpr (.head _); cases this
  | x :: a, [], _, _, h => by have := (h x).mp (.head _); cases this
  | x :: a, y :: b, ha, hb, h => by
    rw [List.pairwise_cons] at ha hb
    have hxy : x = y := by
      rcases List.mem_cons.mp ((h x).mp (.head _)) with e | h1
      · exact e
      · rcases List.mem_cons.mp ((h y).mpr (.head _)) with e | h2
        · exact e.symm
        · have := hb.1 x h1; have := ha.1 y h2; omega
    subst hxy
    rw [sorted_ext ha.2 hb.2 fun z => ?_]
    constructor
    · intro hz
      have := ha.1 z hz
      rcases List.mem_cons.mp ((h z).mp (.tail _ hz)) with e | h1
      · omega
      · exact h1
    · intro hz
      have := hb.1 z hz
      rcases List.mem_cons.mp ((h z).mpr (.tail _ hz)) with e | h1
      · omega
      · exact h1

/-- what is sorted, of the different rows, is the row that the number tells -/
theorem plain_rows {d : Nat} {ks us : List Tree} (hk : ∀ k ∈ ks, k.ht ≤ d) (hp : us.Perm (dedA (ks.map fun k => rowF d k.num))) (hs : us.Pairwise fun a b => a.num ≤ b.num) : Tree.node us = rowF (d + 1) (nums ks) := by
  have hb : ∀ k ∈ ks, k.num < bnd d := fun k hkk => num_bnd d k (hk k hkk)
  have hmem : ∀ u, u ∈ us ↔ ∃ k ∈ ks, rowF d k.num = u := fun u => by rw [hp.mem_iff, mem_dedA, List.mem_map]
  have hself : ∀ u ∈ us, rowF d u.num = u := fun u hu => by
    obtain ⟨k, hkk, rfl⟩ := (hmem u).mp hu
    rw [num_rowF d _ (hb k hkk)]
  have hnd : us.Nodup := hp.nodup_iff.mpr (nodup_dedA _)
  have hlt : (us.map Tree.num).Pairwise (· < ·) := by
    rw [List.pairwise_map]
    have h1 : us.Pairwise fun a b => a.num ≤ b.num ∧ a ≠ b := hs.and hnd
    refine h1.imp_of_mem fun {a b} ha hb' h => ?_
    rcases Nat.lt_or_eq_of_le h.1 with q | q
    · exact q
    · exact absurd (by rw [← hself a ha, ← hself b hb', q]) h.2
  have e : us.map Tree.num = bits (nums ks) := sorted_ext hlt (bits_sorted _) fun x => by
    rw [mem_bits, nums_bit, List.mem_map]
    constructor
    · rintro ⟨u, hu, rfl⟩
      obtain ⟨k, hkk, rfl⟩ := (hmem u).mp hu
      exact ⟨k, hkk, (num_rowF d _ (hb k hkk)).symm⟩
    · rintro ⟨k, hkk, rfl⟩
      exact ⟨rowF d k.num, (hmem _).mpr ⟨k, hkk, rfl⟩, num_rowF d _ (hb k hkk)⟩
  rw [rowF, ← e, List.map_map]
  congr 1
  conv => lhs; rw [← List.map_id us]
  exact List.map_congr_left fun u hu => (hself u hu).symm
theorem dedA_len_le {α : Type} (l : List α) : (dedA l).length ≤ l.length := by
  have gen : ∀ (l acc : List α), (l.foldl dedAStep acc).length ≤ acc.length + l.length := by
    intro l
    induction l with
    | nil => intro acc; simp
    | cons a l ih =>
      intro acc
      have h1 := ih (dedAStep acc a)
      have h2 : (dedAStep acc a).length ≤ acc.length + 1 := by unfold dedAStep; split <;> simp
      rw [List.foldl_cons, List.length_cons]; omega
  have := gen l []
  simpa [dedA] using this
end Mine

namespace Mine

section
variable {w : World} {A : Around} {E : Value → Shared → Prop} {s r : Shared} {h base : Heap} {tk : Nat} {env : Env}
theorem plain_iadd : plainId "list.__iadd__" = true := by decide +kernel
theorem plain_collect : plainId "proto.collect" = true := by decide +kernel

theorem collect_dict0 {d : Addr} {Q : List Value → Shared → Prop} (hh : A.handled = none) (hd : h.DictOf (intKind PG w) d []) (h84 : 84 < d)
    (hQ : ∀ h' tk', h.StaysIn h' → Q [] (S r h' tk')) : wpAny (model PG w) A (collect (.ref d)) Q E (S r h tk) := by
  have lo : (d == sysModules) = false := by
    rw [beq_eq_false_iff_ne]; intro q; rw [q] at h84; exact absurd h84 (by decide)
  have hdS : h.objs.size ≠ d := by
    obtain ⟨o, es, ep, ho, _⟩ := hd
    exact fun q => absurd (Heap.lt_size ho) (by rw [q]; exact Nat.lt_irrefl _)
  have hd' : (h.push (seqObj "list" #[] 0)).DictOf (intKind PG w) d [] := hd.push _
  obtain ⟨ep, hat⟩ := hd'.dictAt
  have key : ∀ R : Result → Shared → Prop, (∀ h' tk' c', h.StaysIn h' → h'.get? h.objs.size = some { cls := .type "list", dict := none, data := .seq #[] c', slots := #[] } → R (.ok (.ret (.ref h.objs.size))) (S r h' tk')) →
      codeAny (model PG w) A (.builtin "proto.collect" ⟨[.ref d], []⟩) R (S r h tk) := by
    intro R hR
    refine codeAny_builtin entry_proto_collect' ?_
    show wpAny _ _ (do again (.builtin "list.__iadd__" ⟨[← newList [], .ref d], []⟩)) _ _ (S r h tk)
    refine wpAny_bind (wpAny_newList (s := S r h tk) (wpAny_pure ⟨Code.quiet_builtin _ (by decide +kernel), codeAny_builtin entry_list_iadd' ?_⟩))
    rw [Around.under_plainId plain_iadd _]
    show wpAny _ A.in1 (Builtin.List.listExtendWith (.ref h.objs.size) (.ref d) (.ref h.objs.size)) _ _ (S r (h.push (seqObj "list" #[] 0)) tk)
    refine kdl_extend (R := R) (s := S r (h.push (seqObj "list" #[] 0)) tk) (kdl_dict (knd := intKind PG w) (kvs := []) (ep := ep) lo) hh hat h.objs.size hdS hdS (.ref h.objs.size) 0 (Heap.get?_push_size _ rfl) (fun h' tk' acc' c' hk hS hacc => ?_) (Nat.zero_le _)
    have hacc0 : acc' = #[] := Array.eq_empty_of_size_eq_zero hacc.1
    subst hacc0
    exact hR h' tk' c' (fun b o e => hk b o (Nat.ne_of_lt (Heap.lt_size e)) (Heap.get?_push_of_some _ e)) hS
  unfold collect
  refine wpAny_bind (wpAny_runValue (key _ fun h' tk' c' k hS => ?_))
  show wpAny (model PG w) A (do
      let o ← load h.objs.size
      match o.data with
      | .seq xs _ => pure xs.toList
      | _ => unsupported "internal:collect") Q E (S r h' tk')
  exact wpAny_bind (wpAny_load (s := S r h' tk') hS (wpAny_pure (hQ h' tk' k)))

theorem sorted_dict0 {L d : Addr} {m : Str → Option Value} {Q : Value → Shared → Prop} (hh : A.handled = none) (hb : base.StaysIn h) (hn : h.Ns L m) (hbL : base.get? L = none) (hd : h.DictOf (intKind PG w) d []) (h84 : 84 < d)
    (hQ : ∀ D h' tk', UpW (· = L) base h h' → h'.Ns L m → h.get? D = none → h'.IsList D #[] → Q (.ref D) (S r h' tk')) :
    wpAny (model PG w) A (call (.builtin "sorted") [.ref d] [(Str.ofString "key", .ref 62)]) Q E (S r h tk) := by
  refine call_function_entry_kw kind_sorted plain_sorted entry_sorted (ksk_s1 _ _) ?_
  unfold Builtin.«sorted»
  refine wpAny_bind (m := checkCount "sorted" 1 1 _) (wpAny_pure ?_)
  refine wpAny_bind (collect_dict0 hh hd h84 fun h₁ tk₁ k₁ => ?_)
  refine wpAny_bind (wpAny_newList (s := S r h₁ tk₁) ?_ (Nat.zero_le _))
  have hn₁ := hn.keeps k₁
  have hl : (h₁.push (seqObj "list" #[] 0)).get? h₁.objs.size = some (seqObj "list" #[] 0) := Heap.get?_push_size _ rfl
  have hn₂ : (h₁.push (seqObj "list" #[] 0)).Ns L m := hn₁.keeps (stays_push _ _)
  have hLD : h₁.objs.size ≠ L := fun q => absurd hn₁.lt (by rw [q]; exact Nat.lt_irrefl _)
  have F : Fr (⟨#[], {}⟩ : Heap) L (h₁.push (seqObj "list" #[] 0)) m := ⟨hn₂, fun b o e => absurd (Heap.lt_size e) (by simp), Nat.zero_le _⟩
  have N : News (⟨#[], {}⟩ : Heap) L (h₁.push (seqObj "list" #[] 0)) (allBut h₁ L) := fun p hp => ⟨Heap.get?_push_of_some _ (mem_allBut.mp hp).2, (mem_allBut.mp hp).1, get?_ge (Nat.zero_le _)⟩
  refine wpAny_bind (wpAny_holding (wpAny_call_entry_kw slot_list_sort ⟨_, hl, rfl⟩ entry_list_sort ?body (ksk_l1 _ _)))
  case body =>
    have ht' := ksk_t1 62 h₁.objs.size
    show wpAny (model PG w) _ (Builtin.«list.sort» ⟨[.ref h₁.objs.size], [(Str.ofString "key", .ref 62)]⟩) _ _ _
    rw [ht']
    refine ksk_sort (s := S r (h₁.push (seqObj "list" #[] 0)) tk₁) (vs := []) (kz := []) F N hl hLD (get?_ge (Nat.zero_le _)) (fun p hp => Nat.ne_of_lt (Heap.lt_size (mem_allBut.mp hp).2)) rfl (by decide) (fun i v k hv => by simp at hv)
      fun h' tk out c F' N' k' => ⟨_, rfl, ?_⟩
    refine wpAny_pure ⟨_, rfl, ?_⟩
    have hout : out = #[] := by
      obtain ⟨ps, hp, ho, _⟩ := k'
      have : ps = [] := by simpa using hp
      subst this
      rw [← Array.toArray_toList (xs := out), ho]; rfl
    subst hout
    have kp : Kp (· = L) h h' := fun b o nb e => (N' (b, o) (.tail _ (mem_allBut.mpr ⟨nb, k₁ _ _ e⟩))).1
    refine hQ _ h' tk (UpW.of_kp kp hb fun b q => q ▸ hbL) F'.ns ?_ ⟨_, (N' _ (.head _)).1, rfl, c, rfl⟩
    exact get?_none_of_stays k₁ (get?_ge (Nat.le_refl _))
end
end Mine

namespace Mine

section
variable {w : World} {A : Around} {E : Value → Shared → Prop} {s r : Shared} {h base : Heap} {tk : Nat} {env : Env}
theorem kw_one {M : Model} {pos pk : Pos} {n : Str} {kwv : Expr} {Q : List Value → Shared → Prop} (hq : wpAny M A (eval kwv env) (fun u s₂ => Q [u] s₂) E s) :
    wpAny M A (evalAll ((backToKw pos (keywordEach [⟨some n, kwv, pk⟩] env)).map (·.2))) Q E s := by
  show wpAny M A (evalAll [do let v ← eval kwv env; standAt pos; pure v]) Q E s
  refine evalAll_cons (wpAny_bind (wpAny_mono hq (fun u s₂ h₂ => ?_) fun _ _ x => x))
  exact wpAny_bind (wpAny_standAt (wpAny_pure (evalAll_nil h₂)))
theorem callK1 {A' : Around} {f n : Str} {a : Addr} {p1 pos pk : Pos} {arg kwv : Expr} {Q : Value → Shared → Prop} (C : Cx w A' s.heap) (e : nsIn (KP w) mainGlobals f = some (some (.ref a))) (hk : keepIn (KP w) (.ref a) = true)
    (hq : wpAny (model PG w) A (eval arg env) (fun v s₁ => wpAny (model PG w) A (eval kwv env) (fun u s₂ => (KP w).In s₂.heap ∧ wpAny (model PG w) A (call (.ref a) [v] [(n, u)]) Q E s₂) E s₁) E s)
    (hs : starEach [arg] env = [(false, eval arg env)] := by rfl)
    (hg : env.globals = mainGlobals := by rfl) (hkd : env.scope.kind = .function := by rfl) (hx : env.kindOf f = some .globalImplicit := by rfl) (hd : (f == ("__debug__" : Str)) = false := by decide) :
    wpAny (model PG w) A (eval (.Call (.Name f p1) [arg] [⟨some n, kwv, pk⟩] pos) env) Q E s := by
  refine wpAny_Call_Name_kw (nmG C e ?_ hg hkd hx hd)
  refine callWith_KW C.X hk rfl ?_ (by rw [hs]; rfl) (by rw [hs]; rfl)
  refine spliced_more ?_ (by rw [hs]; rfl)
  refine wpAny_mono hq (fun v s₁ hv => ?_) fun _ _ x => x
  refine wpAny_pure (kw_one (wpAny_mono hv (fun u s₂ hu => ?_) fun _ _ x => x))
  exact hu
theorem callB1 {f n : Str} {id : String} {A' : Around} {p1 pos pk : Pos} {arg kwv : Expr} {Q : Value → Shared → Prop} (C : Cx w A' s.heap) (e : nsIn (KP w) mainGlobals f = some none) (hv : bootBuiltins f = some (.builtin id)) (hn : f ≠ "__name__")
    (hq : wpAny (model PG w) A (eval arg env) (fun v s₁ => wpAny (model PG w) A (eval kwv env) (fun u s₂ => wpAny (model PG w) A (call (.builtin id) [v] [(n, u)]) Q E s₂) E s₁) E s)
    (hs : starEach [arg] env = [(false, eval arg env)] := by rfl)
    (hg : env.globals = mainGlobals := by rfl) (hb : env.builtins = builtinsNs := by rfl) (hkd : env.scope.kind = .function := by rfl) (hx : env.kindOf f = some .globalImplicit := by rfl) (hd : (f == ("__debug__" : Str)) = false := by decide) :
    wpAny (model PG w) A (eval (.Call (.Name f p1) [arg] [⟨some n, kwv, pk⟩] pos) env) Q E s := by
  refine wpAny_Call_Name_kw (nmB C e hv hn ?_ hg hb hkd hx hd)
  refine callWith_kw ?_ (by rw [hs]; rfl) (by rw [hs]; rfl) rfl rfl
  refine spliced_more ?_ (by rw [hs]; rfl)
  refine wpAny_mono hq (fun v s₁ hv => ?_) fun _ _ x => x
  refine wpAny_pure (kw_one (wpAny_mono hv (fun u s₂ hu => ?_) fun _ _ x => x))
  exact hu
end

theorem plain_step (w : World) (N : Nat) {ks : List Tree} {f : Tree → Tree} {base h : Heap} {v : Value} (hw : (Tree.node ks).weight ≤ 60) (hN : 14 ≤ N) (hf : ∀ k ∈ ks, (f k).ht ≤ 3)
    (ih : ∀ k ∈ ks, ∀ (h : Heap) (v : Value), TreeAt h Any k v → SpecX w N 79 [v] [] base h (fun h' r => TreeAt h' (Free h) (f k) r)) (hv : TreeAt h Any (.node ks) v) :
    SpecX w (N + 2) 79 [v] [] base h (fun h' r => ∃ us : List Tree, us.Perm (dedA (ks.map f)) ∧ us.Pairwise (fun a b => a.num ≤ b.num) ∧ TreeAt h' (Free h) (.node us) r) := by
  obtain ⟨a, vs, rfl, -, hl, hts⟩ := treeAt_iff.mp hv
  intro A r tk Q E C hh hd hu ret
  have hrl : recursionLimit = 1000 := rfl
  rw [Tree.weight] at hw
  have hlen : vs.length ≤ 59 := by rw [← hts.length]; have := len_weights ks; omega
  have hlk : ks.length ≤ 59 := by have := len_weights ks; omega
  refine enterX C (by omega) (f := 79) (binds := [(Str.ofString "node", .ref a)]) rfl rfl (BindsTo.of_eq rfl) rfl (fun L h₁ tk₁ F push => ?_)
  refine wpAny_execs_cons ?_
  have soft : Soft fun ok h' v y => ∃ k, k ∈ ks ∧ TreeAt h Any k v ∧ TreeAt h' ok (f k) y := fun ok ok' h h' v y f q => let ⟨k, h0, h1, h2⟩ := q; ⟨k, h0, h1, h2.mono f⟩
  refine comp_assignX base (fun _ => true) (fun ok h' v y => ∃ k, k ∈ ks ∧ TreeAt h Any k v ∧ TreeAt h' ok (f k) y) soft rfl (by decide) (by decide) rfl (by decide) rfl ?_
  refine nmL F.ns rfl ?_
  have hl₁ := F.up.lk0 _ _ hl
  refine iters_listX (fun _ => False) hh hl₁ (fun q => q) (fun q => q) fun it g₂ It => ?_
  refine ⟨_, _, h₁, g₂, _, _, _, rfl, It, by rw [sizeLine_eq]; omega, F.up.2, F.base C.K, F.ns, ?_, ?_, ?_⟩
  · intro Cc i v h₃ m₃ tk₃ hv k₃ hn₃ hx
    exact tests_nil ⟨rfl, h₃, tk₃, rfl, UpW.refl k₃.2⟩
  · intro Cc i v h₃ m₃ tk₃ hv _ k₃ hn₃ hx
    have C₃ := push _ _ (F.step k₃)
    obtain ⟨k, hk, hkt⟩ := hts.flip.get hv
    have hkk : k ∈ ks := List.mem_of_getElem? hk
    refine call1 C₃.cx rfl rfl (nmL hn₃ hx ⟨C₃.cx.X, ?_⟩)
    refine ih k hkk h₃ v (hkt.lk (F.up.trans k₃).lk0) _ _ _ _ _ C₃ hh (by simp only [Around.deeper]; omega) (by simp only [Around.deeper]; omega) ?_
    intro v' h₄ tk₄ k₄ hv'
    exact ⟨h₄, tk₄, rfl, k₄, k, hkk, hkt, hv'⟩
  · intro D h₄ tk₄ ys vs' hD u₄ hn₄ hlD hlen' hP hF
    rw [filter_all] at hF
    have e := list_eq_get hlen' hP
    subst e
    have F₄ := F.kp u₄ hn₄ fun b q => q ▸ F.free
    have C₄ := push _ _ F₄
    have fr : ∀ b, h₁.get? b = none → h.get? b = none := fun b e => F.up.free e
    have hq₄ : All2 (TreeAt h₄ (Free h)) (ks.map f) ys := by
      refine All2.map_left ?_
      have q1 : All2 (fun v y => ∃ k, TreeAt h Any k v ∧ (k ∈ ks ∧ TreeAt h₄ (FreeBut h₁ D) (f k) y)) vs' ys := hF.imp fun v y ⟨k, a, b, c⟩ => ⟨k, b, a, c⟩
      exact (all2_pick (T := fun k y => k ∈ ks ∧ TreeAt h₄ (FreeBut h₁ D) (f k) y) hts q1).imp fun _ _ z => z.2.mono fun a xs o l => ⟨fr _ o.1, l⟩
    have hht : ∀ t ∈ ks.map f, t.ht ≤ 3 := fun t ht => by obtain ⟨k, hk, rfl⟩ := List.mem_map.mp ht; exact hf k hk
    refine wpAny_execs_cons (wpAny_Return_some ?_)
    refine callB1 C₄.cx rfl bbSorted (by decide) ?_
    refine callK1 C₄.cx rfl rfl ?_
    refine nmL hn₄ rfl ?_
    refine wpAny_Constant_bool ⟨C₄.cx.X, ?_⟩
    by_cases hys : ys = []
    · subst hys
      refine dedup0_spec w hlD _ _ _ _ _ C₄.cx hh (by simp only [Around.deeper]; omega) (by simp only [Around.deeper]; omega) ?_
      rintro v₅ h₅ tk₅ k₅ ⟨d, rfl, h84, hd₅, hdd⟩
      have F₅ := F₄.stays k₅
      have C₅ := push _ _ F₅
      refine nmG C₅.cx rfl ?_
      refine sorted_dict0 hh C₅.K F₅.ns (F₅.base C.K) hdd h84 fun D' h₆ tk₆ u₆ hn₆ hD₆ hl₆ => ?_
      have F₆ := F₅.kp u₆ hn₆ fun b q => q ▸ F.free
      refine ret _ h₆ tk₆ F₆.up ⟨[], ?_, .nil, treeAt_iff.mpr ⟨D', [], rfl, F₅.up.free hD₆, hl₆, .nil⟩⟩
      have e : ks.map f = [] := List.length_eq_zero_iff.mp hq₄.length
      rw [e]; exact .refl _
    · refine dedupT_spec w hlD hq₄ hys (by rw [List.length_map]; omega) (fun t ht => by have := hht t ht; omega) _ _ _ _ _ C₄ hh (by simp only [Around.deeper]; omega) (by simp only [Around.deeper]; omega) ?_
      rintro v₅ h₅ tk₅ k₅ ⟨D₅, ys₅, rfl, hD₅, hl₅, hq₅⟩
      have F₅ := F₄.step k₅
      have C₅ := push _ _ F₅
      refine nmG C₅.cx rfl ?_
      refine sorted_num hh C₅ F₅.ns (F₅.base C.K) hl₅.isList hq₅ (fun t ht => by have := hht t ((mem_dedA _ _).mp ht); omega) (by have := dedA_len_le (ks.map f); rw [List.length_map] at this; omega)
        (by simp only [Around.deeper]; omega) (by simp only [Around.deeper]; omega) fun D' h₆ tk₆ us ys₆ u₆ hn₆ hD₆ hl₆ hp hs hq₆ => ?_
      have F₆ := F₅.kp u₆ hn₆ fun b q => q ▸ F.free
      exact ret _ h₆ tk₆ F₆.up ⟨us, hp, hs, treeAt_iff.mpr ⟨D', ys₆, rfl, F₅.up.free hD₆, hl₆, hq₆⟩⟩

theorem plain_spec (w : World) : ∀ d, d ≤ 4 → ∀ (t : Tree) (base h : Heap) (v : Value), t.ht ≤ d → t.weight ≤ 60 → TreeAt h Any t v → SpecX w (2 * d + 16) 79 [v] [] base h (fun h' r => TreeAt h' (Free h) (rowF d t.num) r) := by
  intro d
  induction d with
  | zero =>
    rintro _ ⟨ks⟩ base h v ht hw hv
    rw [Tree.ht] at ht
    have hk := hts_zero ht
    subst hk
    intro A r tk Q E C hh hd hu ret
    refine plain_step w 14 (f := id) hw (Nat.le_refl _) (fun k hk => by cases hk) (fun k hk => by cases hk) hv A r tk Q E C hh hd hu ?_
    rintro v h' tk' k ⟨us, hp, _, ht'⟩
    have e : us = [] := by simpa [dedA] using hp
    subst e
    exact ret v h' tk' k ht'
  | succ d ih =>
    rintro hd4 ⟨ks⟩ base h v ht hw hv
    rw [Tree.ht] at ht
    have hkd : ∀ k ∈ ks, k.ht ≤ d := ht_le_of_hts ht
    have hkw : ∀ k ∈ ks, k.weight ≤ 60 := fun k hk => by have := weight_mem hk; rw [Tree.weight] at hw; omega
    intro A r tk Q E C hh hd hu ret
    refine plain_step w (2 * d + 16) (f := fun k => rowF d k.num) hw (by omega) (fun k hk => by have := ht_rowF d k.num; omega) (fun k hk h v hkv => ih (by omega) k base h v (hkd k hk) (hkw k hk) hkv) hv A r tk Q E C hh (by omega) (by omega) ?_
    rintro v h' tk' k ⟨us, hp, hs, ht'⟩
    refine ret v h' tk' k ?_
    rw [plain_rows hkd hp hs] at ht'
    exact ht'
end Mine

namespace Mine

def rmL (e : Value → Bool) : List Value → Option (List Value)
  | [] => none
  | y :: ys => if e y then some ys else (rmL e ys).map (y :: ·)

section
variable {w : World} {A : Around} {E : Value → Shared → Prop} {s r : Shared} {h base : Heap} {tk : Nat} {env : Env}

theorem rm_loop {l : Addr} {x : Value} {e : Value → Value → Bool} {R : Result → Shared → Prop} (hh : A.handled = none) : ∀ (suf pre : List Value), h.PlainList l (pre ++ suf).toArray → (pre ++ suf).length ≤ 100000 →
    (∀ y ∈ suf, EqAt A.in1 (S r h tk) y x (e y x)) →
    (∀ suf', rmL (fun y => e y x) suf = some suf' → ∀ h', Heap.SameBut l h h' → h'.PlainList l (pre ++ suf').toArray → R (.ok (.ret .none)) (S r h' tk)) →
    (rmL (fun y => e y x) suf = none → ∀ h' tk' ex, Heap.NewExc h h' ex "ValueError" → R (.error (.ref ex)) (S r h' tk')) →
    codeAny (model PG w) A (.builtin "list.remove.loop" ⟨[.ref l, x, rawInt (pre.length : Nat)], []⟩) R (S r h tk)
  | [], pre, hl, hsz, heq, hs, hn => by
    refine codeAny_builtin MeetsSeq.entry_remove_loop ?_
    rw [Around.under_plainId MeetsSeq.plain_remove_loop _]
    unfold Builtin.«list.remove.loop»
    obtain ⟨n, ho⟩ := hl
    show wpAny _ _ (Builtin.List.listItems (.ref l) >>= _) _ _ _
    refine wpAny_bind (listItems_at (s := S r h tk) ho rfl ?_)
    have e0 : (pre ++ ([] : List Value)).toArray[((pre.length : Nat) : Int).toNat]? = none := by simp
    rw [e0]
    refine wpAny_bind (wpAny_rule ?_)
    exact_raiseError plainExc_ValueError hh fun h' tk' ex hx => hn rfl h' tk' ex hx
  | y :: suf, pre, hl, hsz, heq, hs, hn => by
    refine codeAny_builtin MeetsSeq.entry_remove_loop ?_
    rw [Around.under_plainId MeetsSeq.plain_remove_loop _]
    unfold Builtin.«list.remove.loop»
    obtain ⟨n, ho⟩ := id hl
    show wpAny _ _ (Builtin.List.listItems (.ref l) >>= _) _ _ _
    refine wpAny_bind (listItems_at (s := S r h tk) ho rfl ?_)
    have e0 : (pre ++ y :: suf : List Value).toArray[((pre.length : Nat) : Int).toNat]? = some y := by simp
    rw [e0]
    refine wpAny_bind (heq y (.head _) PG w _ _ ?_)
    cases hy : e y x with
    | true =>
      rw [if_pos rfl]
      have hz : (pre ++ y :: suf).toArray.size ≤ sizeLine := by rw [List.size_toArray, sizeLine_eq]; omega
      have ee : (pre ++ y :: suf : List Value).toArray.eraseIdxIfInBounds pre.length = (pre ++ suf : List Value).toArray := by
        apply Array.toList_inj.mp
        rw [Array.toList_eraseIdxIfInBounds]
        simp [List.eraseIdx_append_of_length_le]
      refine wpAny_bind (listUpdate_at (s := S r h tk) ho rfl (wpAny_pure ?_) hz ?_)
      · refine hs suf (by simp [rmL, hy]) _ (Heap.SameBut.update ..) ?_
        have := get?_update_seq ho fun xs => xs.eraseIdxIfInBounds ((pre.length : Nat) : Int).toNat
        rw [Int.toNat_natCast] at this ⊢
        rw [ee] at this
        exact ⟨_, this⟩
      · rw [Int.toNat_natCast, ee, List.size_toArray, sizeLine_eq]
        rw [List.length_append, List.length_cons] at hsz
        rw [List.length_append]
        omega
    | false =>
      rw [if_neg Bool.false_ne_true]
      refine wpAny_pure ⟨plainId_quiet MeetsSeq.plain_remove_loop _, ?_⟩
      have e1 : (pre ++ y :: suf) = (pre ++ [y]) ++ suf := by simp
      have e2 : rawInt (((pre.length : Nat) : Int) + 1) = rawInt ((pre ++ [y]).length : Nat) := by rw [List.length_append, List.length_singleton]; rfl
      rw [e2]
      rw [e1] at hl hsz
      refine rm_loop hh suf (pre ++ [y]) hl hsz (fun z hz => heq z (.tail _ hz)) (fun suf' hs' h' sb hl' => ?_) fun hn' => ?_
      · have e3 : (pre ++ [y]) ++ suf' = pre ++ (y :: suf') := by simp
        rw [e3] at hl'
        exact hs (y :: suf') (by simp [rmL, hy, hs']) h' sb hl'
      · exact hn (by simp [rmL, hy, hn'])

theorem rm_call {l : Addr} {x : Value} {xs : List Value} {e : Value → Value → Bool} {Q : Value → Shared → Prop} (hh : A.handled = none) (hl : h.PlainList l xs.toArray) (hsz : xs.length ≤ 100000) (heq : ∀ y ∈ xs, EqAt A.in1 (S r h tk) y x (e y x))
    (hs : ∀ xs', rmL (fun y => e y x) xs = some xs' → ∀ h', Heap.SameBut l h h' → h'.PlainList l xs'.toArray → Q .none (S r h' tk))
    (hn : rmL (fun y => e y x) xs = none → ∀ h' tk' ex, Heap.NewExc h h' ex "ValueError" → E (.ref ex) (S r h' tk')) :
    wpAny (model PG w) A (call (.builtin "list.remove") [.ref l, x]) Q E (S r h tk) := by
  have hT : (S r h tk).TypeIs (.ref l) "list" := hl.isList.typeIs (s := S r h tk)
  refine wpAny_call (codeAny_call_builtin PySem.F.slot_list_remove.plain PySem.F.entry_list_remove (PySem.F.slot_list_remove.check _ _ _ _ _ _ _ _ hT (PySem.F.args_list_remove_2 _ _) ?_))
  unfold Builtin.«list.remove»
  refine wpAny_bind (wpAny_of_eq (a := (.ref l, x)) rfl ?_)
  refine wpAny_pure ⟨plainId_quiet MeetsSeq.plain_remove_loop _, ?_⟩
  exact rm_loop hh xs [] hl hsz heq (fun suf' e h' sb hl' => hs suf' e h' sb hl') fun e h' tk' ex hx => hn e h' tk' ex hx

/-- `name.remove(name2)` as a statement -/
theorem exec_remove {t x : Str} {p1 p2 p3 p4 p5 : Pos} {l : Addr} {v : Value} {xs : List Value} {e : Value → Value → Bool} {m : Str → Option Value} {pl : Sem Bool} {Q : Flow → Shared → Prop} (hh : A.handled = none)
    (hn : h.Ns env.locals m) (ht : m t = some (.ref l)) (hx : m x = some v) (hl : h.PlainList l xs.toArray) (hsz : xs.length ≤ 100000) (heq : ∀ y ∈ xs, EqAt A.in1 (S r h tk) y v (e y v))
    (hs : ∀ xs', rmL (fun y => e y v) xs = some xs' → ∀ h', Heap.SameBut l h h' → h'.PlainList l xs'.toArray → Q .next (S r h' tk))
    (hne : rmL (fun y => e y v) xs = none → ∀ h' tk' ex, Heap.NewExc h h' ex "ValueError" → E (.ref ex) (S r h' tk'))
    (hst : starEach [Expr.Name x p5] env = [(false, eval (.Name x p5) env)])
    (hc : ∀ (Q : Value → Shared → Prop) (s : Shared), wpAny (model PG w) A (eval (.Name t p1) env) (fun ov s₁ => wpAny (model PG w) A (getMethod ov (Str.ofString "remove") pl)
        (fun fx s₂ => wpAny (model PG w) A (callWith p3 fx.1 fx.2 (backTo p3 (starEach [.Name x p5] env)) []) Q E s₂) E s₁) E s → wpAny (model PG w) A (eval (.Call (.Attribute (.Name t p1) (Str.ofString "remove") p2) [.Name x p5] [] p3) env) Q E s)
    (hk : env.scope.kind = .function := by rfl) (hlk : env.kindOf t = some .local := by rfl) (hlx : env.kindOf x = some .local := by rfl) (hd : (t == ("__debug__" : Str)) = false := by decide) (hd2 : (x == ("__debug__" : Str)) = false := by decide)
    (hi : interactive env = false := by rfl)
    (hw : swapsWith (.Call (.Attribute (.Name t p1) (Str.ofString "remove") p2) [.Name x p5] [] p3) none p4.line env = pure false := by rfl) :
    wpAny (model PG w) A (exec (.Expr (.Call (.Attribute (.Name t p1) (Str.ofString "remove") p2) [.Name x p5] [] p3) p4) env) Q E (S r h tk) := by
  refine wpAny_Expr_any (hc _ _ (nmL hn ht ?_ hk hlk hd)) hi hw
  obtain ⟨n, ho⟩ := id hl
  refine getMethod_builtin (s := S r h tk) ⟨_, ho, rfl⟩ PySem.F.plainAttrs_list PySem.F.slot_list_remove PySem.F.type_list_remove (fun a e => by cases e; exact ⟨_, ho, rfl⟩) ?_
  refine callWith_method1 (spliced_more ?_ (by rw [hst]; rfl)) (by rw [hst]; rfl) (by rfl)
  refine nmL hn hx (wpAny_pure ?_) hk hlx hd2
  exact rm_call hh hl hsz heq hs hne
end
end Mine

namespace Mine

section
variable {w : World} {A : Around} {E : Value → Shared → Prop} {s r : Shared} {base h : Heap} {tk : Nat} {env : Env}
theorem For_walkE {hz : Heap} {tz : Nat} {x : Str} {px pos : Pos} {iter : Expr} {body : List Stmt} {Q : Flow → Shared → Prop} (base : Heap) (EB : Value → Shared → Prop) (hEB : ∀ x s', EB x s' → notedBy (model PG w) A env (fun e s' => cameBackBy (model PG w) A env E e s') x s') (W : Addr → Prop) (J : Nat → Heap → (Str → Option Value) → Prop)
    (hJ : ∀ i h h' m m', J i h m → LK h h' → PK h h' → (∀ y, y ≠ x → m' y = m y) → J i h' m')
    (h : wpAny (model PG w) A (eval iter env) (fun xv s₁ => wpAny (model PG w) A (pyIter xv) (fun it s₂ => ∃ n P m g₁ g₂ tk₂, s₂ = S r g₂ tk₂ ∧ ItersX w A W g₁ it g₂ n P ∧ W env.locals ∧ base.StaysIn g₁ ∧ base.get? env.locals = none ∧ g₁.Ns env.locals m ∧ J 0 g₁ m ∧
      (∀ i v h₂ m₂ tk, i < n → P i v → UpW W base g₁ h₂ → h₂.Ns env.locals m₂ → m₂ x = some v → J i h₂ m₂ →
        wpAny (model PG w) A (execs body env) (fun fl s₃ => (fl = .next ∨ fl = .cont) ∧ ∃ h₃ tk₃ m₃, s₃ = S r h₃ tk₃ ∧ UpW W base h₂ h₃ ∧ h₃.Ns env.locals m₃ ∧ J (i + 1) h₃ m₃) EB (S r h₂ tk)) ∧
      (∀ h' tk m', UpW W base g₁ h' → h'.Ns env.locals m' → J n h' m' → Q .next (S r h' tk))) E s₁) E (S r hz tz))
    (hl : env.kindOf x = some .local := by rfl) (hp : (env.scope.kind == .class || (env.scope.kind == .module && env.locals != env.globals)) = false := by rfl)
    (hs : ∀ x, foldedSetIterable iter env x = pure x := by intro _; rfl) :
    wpAny (model PG w) A (exec (.For (.Name x px) iter body [] pos) env) Q E (S r hz tz) := by
  refine wpAny_For (wpAny_mono h (fun xv s₁ h₁ => wpAny_mono h₁ (fun it s₂ h₂ => ?_) fun _ _ e => e) fun _ _ e => e) hs
  obtain ⟨n, P, m, g₁, g₂, tk₂, rfl, ⟨I, fp, wr, St, rfl, Wk, hst, hk, hfp, hwr, hnl, hnd⟩, hWL, hbg, hbL, hn, h0, turn, done⟩ := h₂
  have hLf : env.locals ∉ fp := fun q => (hfp _ q).1 hWL
  have hLw : env.locals ∉ wr := fun q => hLf (Wk.sub _ q)
  have hbw : ∀ b ∈ wr, base.get? b = none := fun b hb => get?_none_of_stays hbg (hwr b hb)
  have lkw : ∀ i h h', St i h → (∀ b o, b ∉ wr → h.get? b = some o → h'.get? b = some o) → LK h h' := fun i h h' st k a xs x => by
    obtain ⟨o, ho, r⟩ := id x
    exact ⟨o, k a o (fun q => hnl i h st a q xs x) ho, r⟩
  have pkw : ∀ i h h', St i h → (∀ b o, b ∉ wr → h.get? b = some o → h'.get? b = some o) → PK h h' := fun i h h' st k a xs x => x.at fun o e => k a o (fun q => hnl i h st a q xs x.isList) e
  have kpw : ∀ h h', UpW W base g₁ h → (∀ b o, b ∉ wr → h.get? b = some o → h'.get? b = some o) → UpW W base g₁ h' := fun h h' k k' =>
    ⟨fun b o nb e => let ⟨sl, e1, f1⟩ := k.1 b o nb e; ⟨sl, k' b _ (fun q => by rw [hwr b q] at e; cases e) e1, f1⟩, fun b o e => k' b o (fun q => by rw [hbw b q] at e; cases e) (k.2 b o e)⟩
  refine codeAny_forLoop (fun k s' => ∃ h' tk m' i, s' = S r h' tk ∧ St i h' ∧ UpW W base g₁ h' ∧ h'.Ns env.locals m' ∧ J i h' m' ∧ i ≤ n ∧ k = n + 1 - i) ?_ (n + 1)
    ⟨g₂, tk₂, m, 0, rfl, hst, UpW.of_stays hk hbg, hn.keeps hk, hJ _ _ _ _ _ h0 (LK.of_stays hk) (PK.of_stays hk) fun _ _ => rfl, Nat.zero_le _, rfl⟩
  rintro k s' ⟨h', tk, m', i, rfl, hst', hkp, hns, hj, hi, rfl⟩
  by_cases hlt : i < n
  · refine Wk.item i _ _ _ hlt hst' fun v h₁ tk₁ hPv hst₁ hk₁ => ?_
    have hns₁ : h₁.Ns env.locals m' := hns.at' fun o e => hk₁ _ o hLw e
    refine wpAny_assign_Name (wpAny_storeName_local hl hns₁ (fun h₂ hn₂ hs₂ => ?_) hp)
    have hst₂ : St (i + 1) h₂ := Wk.frame _ _ _ hst₁ fun b hb o e => hs₂.extBut b o (fun q => hLf (q ▸ hb)) e
    have lk₂ : LK h' h₂ := (lkw _ _ _ hst' hk₁).trans (LK.of_same (fun xs => not_list_of_ns hns₁) hs₂)
    have pk₂ : PK h' h₂ := (pkw _ _ _ hst' hk₁).trans (PK.of_same (fun xs => not_list_of_ns hns₁) hs₂)
    have kp₁ := kpw _ _ hkp hk₁
    have kp₂ : UpW W base g₁ h₂ := kp₁.trans (UpW.of_same hWL hs₂ kp₁.2 hbL)
    have j₂ : J i h₂ (fun y => if y = x then some v else m' y) := hJ _ _ _ _ _ hj lk₂ pk₂ fun y hy => by simp [hy]
    refine wpAny_mono (turn i v h₂ _ _ hlt hPv kp₂ hn₂ upd_self j₂) (fun fl s₃ h₃ => ?_) fun _ _ e => hEB _ _ e
    obtain ⟨hf, h₃, tk₃, m₃, rfl, kp₃, hn₃, j₃⟩ := h₃
    have fin : ∃ mm, mm < n + 1 - i ∧ ∃ h' tk m' i, S r h₃ tk₃ = S r h' tk ∧ St i h' ∧ UpW W base g₁ h' ∧ h'.Ns env.locals m' ∧ J i h' m' ∧ i ≤ n ∧ mm = n + 1 - i :=
      ⟨n + 1 - (i + 1), by omega, h₃, tk₃, m₃, i + 1, rfl, Wk.frame _ _ _ hst₂ fun b hb o e => kp₃.get (hfp b hb).1 e (hnd _ _ hst₂ b hb o e), kp₂.trans kp₃, hn₃, j₃, hlt, rfl⟩
    rcases hf with rfl | rfl <;> exact fin
  · have hin : i = n := by omega
    subst hin
    refine Wk.done _ _ _ hst' fun h₁ tk₁ hk₁ => wpAny_execs_nil ?_
    exact done h₁ tk₁ m' (kpw _ _ hkp hk₁) (hns.at' fun o e => hk₁ _ o hLw e) (hJ _ _ _ _ _ hj (lkw _ _ _ hst' hk₁) (pkw _ _ _ hst' hk₁) fun _ _ => rfl)


theorem caughtLoop {X : String} {x : Str} {outer : List Env} {L e : Addr} {ob : Obj} {t : Value} {np pos : Pos} {b₀ : Stmt} {suite : List Stmt} {rest : List ExceptHandler} {Q : Flow → Shared → Prop}
    (C : CxX w A base h) (hfr : A.frames = some (env :: outer)) (hf : env.frame = some L) (he : h.get? e = some ob) (hc : ob.cls = .type X) (hd : ob.data = .fields #[t, .none, .none, .none, .bool false, .none]) (hb : base.get? e = none)
    (hv : bootBuiltins x = some (.type X)) (hx : nsIn (KP w) mainGlobals x = some none) (hxn : x ≠ "__name__")
    (hexc : isSubtype (.type X) (.type "BaseException") = pure true) (hnt : isSubtype (.type ((Manifest.find? X).elim "type" fun y => y.metatype)) (.type "tuple") = pure false) (hsub : isSubtype (.type X) (.type X) = pure true)
    (k : ∀ h' T, h.get? T = none → T ≠ e → UpW (fun b => b = e ∨ b = T) base h h' → ExcAt h' e → wpAny (model PG w) (A.mark (some (.ref e))) (execs (b₀ :: suite) env) Q NoE (S r h' tk))
    (hg : env.globals = mainGlobals := by rfl) (hbl : env.builtins = builtinsNs := by rfl) (hk : env.scope.kind = .function := by rfl) (hxk : env.kindOf x = some .globalImplicit := by rfl) (hdb : (x == ("__debug__" : Str)) = false := by decide) :
    notedBy (model PG w) A env (fun e s' => cameBackBy (model PG w) A env (fun e s₁ => wpAny (model PG w) A (noteFrame e env) (fun _ s₂ => wpAny (model PG w) A (setFlight e none) (fun _ s₃ =>
      wpAny (model PG w) A (handleBy e env (.ExceptHandler (some (.Name x np)) none (b₀ :: suite) pos :: rest)) Q E s₃) E s₂) E s₁) e s') (.ref e) (S r h tk) := by
  have ff : FF h base (env :: outer) := by
    obtain ⟨o', ho', f⟩ := C.F
    rw [hfr] at ho'; cases ho'; exact f
  unfold notedBy
  refine noteFirst (s := S r h tk) hfr ff hf C.K he hd rfl hb fun h₁ T u₁ H₁ hT => ?_
  have hbT : base.get? T = none := get?_none_of_stays C.K hT
  refine cameBack (s := S r h₁ tk) hf H₁ u₁.2 hbT fun h₁' u₁' H₁' => ?_
  refine noteAgain (s := S r h₁' tk) hf H₁' ?_
  refine flightOff (s := S r h₁' tk) H₁' u₁'.2 hbT fun h₂ u₂' H₂ => ?_
  have u₂ : UpW (· = T) base h₁ h₂ := u₁'.trans u₂'
  rw [hc] at H₂
  refine handled_here (s := S r h₂ tk) (X := X) (Tn := X) H₂ u₂.2 hbT hexc hnt hsub (fun Q' q => ?_) fun h₃ u₃ H₃ => ?_
  · have cx : Cx w A h₂ := by
      obtain ⟨p, l, mg, mb, T0⟩ := C.T
      refine ⟨C.X.keeps u₂.2, ⟨p, l, mg, mb, T0.keeps u₂.2⟩, base, env :: outer, hfr, u₂.2, ?_⟩
      refine ff.fun.of_keeps fun b o e1 nf => ?_
      have hbe : b ≠ e := fun q => by rw [q, he] at e1; cases e1; exact nf _ hd
      have hbT' : b ≠ T := fun q => by rw [q, hT] at e1; cases e1
      obtain ⟨sl, e2, _⟩ := u₁.1 b o hbe e1
      obtain ⟨sl2, e3, _⟩ := u₂.1 b _ hbT' e2
      exact ⟨_, e3, rfl⟩
    exact nmB (A' := A) cx hx hv hxn q hg hbl hk hxk hdb
  · have u : UpW (fun b => b = e ∨ b = T) base h h₃ := ((u₁.mono fun b q => .inl q).trans (u₂.mono fun b q => .inr q)).trans (u₃.mono fun b q => .inr q)
    exact k h₃ T hT H₃.ne u H₃.exc
end

theorem rmL_none {α : Type} {R : α → Value → Prop} {e : Value → Bool} {a : α} (he : ∀ b y, R b y → e y = same b a) : ∀ {us : List α} {xs : List Value}, All2 R us xs → a ∉ us → rmL e xs = none
  | [], _, .nil, _ => rfl
  | b :: us, y :: xs, .cons x q, h => by
    have hb : same b a = false := same_false.mpr fun q => h (q ▸ .head _)
    rw [rmL, he b y x, hb, rmL_none he q fun z => h (.tail _ z)]
    rfl
theorem filter_ne_self {α : Type} {a : α} {us : List α} (h : a ∉ us) : us.filter (fun b => !same b a) = us := by
  rw [List.filter_eq_self]
  intro b hb
  have : same b a = false := same_false.mpr fun q => h (q ▸ hb)
  rw [this]; rfl
theorem rmL_some {α : Type} {R : α → Value → Prop} {e : Value → Bool} {a : α} (he : ∀ b y, R b y → e y = same b a) : ∀ {us : List α} {xs : List Value}, All2 R us xs → us.Nodup → a ∈ us → ∃ xs', rmL e xs = some xs' ∧ All2 R (us.filter fun b => !same b a) xs'
  | b :: us, y :: xs, .cons x q, hn, h => by
    rw [List.nodup_cons] at hn
    by_cases hb : b = a
    · subst hb
      refine ⟨xs, by rw [rmL, he b y x, same_self]; rfl, ?_⟩
      rw [List.filter_cons, same_self]
      simp only [Bool.not_true, Bool.false_eq_true, if_false]
      rw [filter_ne_self hn.1]
      exact q
    · have hs : same b a = false := same_false.mpr hb
      obtain ⟨xs', e1, q'⟩ := rmL_some he q hn.2 ((List.mem_cons.mp h).resolve_left fun z => hb z.symm)
      refine ⟨y :: xs', by rw [rmL, he b y x, hs, e1]; rfl, ?_⟩
      rw [List.filter_cons, hs]
      exact .cons x q'
end Mine

namespace Mine

theorem UpW.isList {W : Addr → Prop} {base h h' : Heap} (x : UpW W base h h') {a : Addr} {xs : Array Value} (l : h.IsList a xs) (n : ¬ W a) : h'.IsList a xs := by
  obtain ⟨o, ho, r⟩ := id l
  exact ⟨o, x.get n ho (notDict_list l o ho), r⟩
theorem UpW.tree {W ok : Addr → Prop} {base h h' : Heap} (x : UpW W base h h') (n : ∀ a, ok a → ¬ W a) {t : Tree} {v : Value} (q : TreeAt h ok t v) : TreeAt h' ok t v := q.mono fun a xs o l => ⟨o, x.isList l (n a o)⟩
theorem bbList : bootBuiltins (Str.ofString "list") = some (.type "list") := by decide +kernel
theorem bbValueError : bootBuiltins (Str.ofString "ValueError") = some (.type "ValueError") := by decide +kernel
theorem mem_take_succ {α : Type} {l : List α} {i : Nat} {a x : α} (h : l[i]? = some a) : x ∈ l.take (i + 1) ↔ x ∈ l.take i ∨ x = a := by
  rw [take_snoc h, List.mem_append, List.mem_singleton]
theorem not_mem_take {α : Type} {l : List α} {i : Nat} {a : α} (hn : l.Nodup) (h : l[i]? = some a) : a ∉ l.take i := by
  intro q
  obtain ⟨j, hj, e⟩ := List.mem_take_iff_getElem.mp q
  obtain ⟨hi, e2⟩ := List.getElem?_eq_some_iff.mp h
  have hlt : j < i := by omega
  exact List.pairwise_iff_getElem.mp hn j i (by omega) hi hlt (by rw [e, e2])

theorem nodup_len {α : Type} : ∀ {us l : List α}, us.Nodup → (∀ b ∈ us, b ∈ l) → us.length ≤ l.length
  | [], _, _, _ => Nat.zero_le _
  | a :: us, l, hn, hs => by
    rw [List.nodup_cons] at hn
    have h1 : us.length ≤ (l.filter fun b => !same b a).length := nodup_len hn.2 fun b hb => by
      rw [List.mem_filter]
      refine ⟨hs b (.tail _ hb), ?_⟩
      have : same b a = false := same_false.mpr fun q => hn.1 (q ▸ hb)
      rw [this]; rfl
    have h2 : (l.filter fun b => !same b a).length < l.length := List.length_filter_lt_length_iff_exists.mpr ⟨a, hs a (.head _), by rw [same_self]; simp⟩
    rw [List.length_cons]; omega
theorem compare_spec (w : World) {l1 l2 : Addr} {ts1 ts2 : List Tree} {vs1 vs2 : List Value} {base h : Heap} (hl1 : h.IsList l1 vs1.toArray) (hl2 : h.IsList l2 vs2.toArray)
    (hq1 : All2 (TreeAt h Any) ts1 vs1) (hq2 : All2 (TreeAt h Any) ts2 vs2) (hs1 : ts1.length ≤ 1000) (hs2 : ts2.length ≤ 1000) (hh1 : ∀ t ∈ ts1, t.ht ≤ 10) (hh2 : ∀ t ∈ ts2, t.ht ≤ 10) :
    SpecX w 6 36 [.ref l1, .ref l2] [] base h (fun _ r => ∃ b : Bool, r = .bool b ∧ (b = true ↔ ∀ t, t ∈ ts1 ↔ t ∈ ts2)) := by
  intro A r tk Q E C hh hd hu ret
  have hrl : recursionLimit = 1000 := rfl
  have hcl : cLine = 9900 := rfl
  obtain ⟨outer, hfr, ff⟩ := C.F
  obtain ⟨ok, hok⟩ : ∃ ok : Addr → Prop, ok = fun a => h.get? a ≠ none := ⟨_, rfl⟩
  have old : ∀ {t : Tree} {v : Value}, TreeAt h Any t v → TreeAt h ok t v := fun q => q.mono fun a xs _ l => ⟨by rw [hok]; exact isList_some l, l⟩
  have nok : ∀ {b : Addr}, h.get? b = none → ¬ ok b := fun e q => by rw [hok] at q; exact q e
  refine enterX C (by omega) (f := 36) (binds := [(Str.ofString "first_args", .ref l1), (Str.ofString "second_args", .ref l2)]) rfl rfl (BindsTo.of_eq rfl) rfl (fun L h₁ tk₁ F push => ?_)
  have C₁ := push _ _ F
  -- first
  refine wpAny_execs_cons (wpAny_Assign_Name (call1 C₁.cx rfl rfl (nmL F.ns rfl ⟨C₁.cx.X, ?_⟩)))
  have q1₁ : All2 (TreeAt h₁ ok) ts1 vs1 := hq1.imp fun _ _ z => (old z).lk F.up.lk0
  refine (dedup_spec w (eT h₁) vs1 h₁ l1 (F.up.lk0 _ _ hl1) (by rw [← hq1.length]; exact hs1) (eqs_trees (q1₁.imp fun _ _ z => z.any) hh1)).spec _ _ _ _ _ C₁.cx hh (by simp only [Around.deeper]; omega) (by simp only [Around.deeper]; omega) ?_
  rintro v₂ h₂ tk₂ k₂ ⟨D1, rfl, hD1, hp1⟩
  have qa1 := all2_ded (R := TreeAt h₁ ok) (e := eT h₁) (fun a b y x ra rb => eT_same ra.any rb.any) q1₁
  generalize ded (eT h₁) vs1 = ys1 at hp1 qa1
  have F₂ := F.stays k₂
  refine stS F₂.ns fun h₃ hn₃ hs₃ => ?_
  have F₃ := F₂.set hn₃ hs₃ C.K
  have C₃ := push _ _ F₃
  have pk₃ : PK h₂ h₃ := PK.of_same (fun xs => not_list_of_ns F₂.ns) hs₃
  have lk₁₃ : LK h₁ h₃ := (LK.of_stays k₂).trans (LK.of_same (fun xs => not_list_of_ns F₂.ns) hs₃)
  -- second
  refine wpAny_execs_cons (wpAny_Assign_Name (call1 C₃.cx rfl rfl (nmL hn₃ rfl ⟨C₃.cx.X, ?_⟩)))
  have q2₃ : All2 (TreeAt h₃ ok) ts2 vs2 := hq2.imp fun _ _ z => (old z).lk F₃.up.lk0
  refine (dedup_spec w (eT h₃) vs2 h₃ l2 (F₃.up.lk0 _ _ hl2) (by rw [← hq2.length]; exact hs2) (eqs_trees (q2₃.imp fun _ _ z => z.any) hh2)).spec _ _ _ _ _ C₃.cx hh (by simp only [Around.deeper]; omega) (by simp only [Around.deeper]; omega) ?_
  rintro v₄ h₄ tk₄ k₄ ⟨D2, rfl, hD2, hp2⟩
  have qa2 := all2_ded (R := TreeAt h₃ ok) (e := eT h₃) (fun a b y x ra rb => eT_same ra.any rb.any) q2₃
  generalize ded (eT h₃) vs2 = ys2 at hp2 qa2
  have F₄ := F₃.stays k₄
  refine stS F₄.ns fun h₅ hn₅ hs₅ => ?_
  have F₅ := F₄.set hn₅ hs₅ C.K
  have C₅ := push _ _ F₅
  have pk₅ : PK h₄ h₅ := PK.of_same (fun xs => not_list_of_ns F₄.ns) hs₅
  have lk₃₅ : LK h₃ h₅ := (LK.of_stays k₄).trans (LK.of_same (fun xs => not_list_of_ns F₄.ns) hs₅)
  -- the copy
  have hp2₅ := pk₅ _ _ hp2
  obtain ⟨nD, hoD⟩ := id hp2₅
  have hB1 := nodup_dedA ts1
  have hB2 := nodup_dedA ts2
  have hlen2 : ys2.length ≤ 1000 := by rw [← qa2.length]; have := dedA_len_le ts2; omega
  refine wpAny_execs_cons (wpAny_Assign_Name (Call_ (nmB C₅.cx rfl bbList (by decide) (Pv.callWith_type1 (spliced_more (nmL hn₅ rfl (wpAny_pure ?_)))))))
  refine call_list_seq (s := S r h₅ _) D2 (.inl rfl) hoD rfl rfl (fun h₆ c₆ k₆ hT₆ => ?_) (by rw [List.size_toArray, sizeLine_eq]; omega)
  have hT₅ : h₅.get? h₅.objs.size = none := get?_ge (Nat.le_refl _)
  have hT₆' : h₆.PlainList h₅.objs.size ys2.toArray := ⟨c₆, hT₆⟩
  have F₆ := F₅.stays k₆
  refine stS F₆.ns fun h₇ hn₇ hs₇ => ?_
  have F₇ := F₆.set hn₇ hs₇ C.K
  have C₇ := push _ _ F₇
  have pk₇ : PK h₆ h₇ := PK.of_same (fun xs => not_list_of_ns F₆.ns) hs₇
  have lk₅₇ : LK h₅ h₇ := (LK.of_stays k₆).trans (LK.of_same (fun xs => not_list_of_ns F₆.ns) hs₇)
  have hTl : h₇.PlainList h₅.objs.size ys2.toArray := pk₇ _ _ hT₆'
  have hhT : h.get? h₅.objs.size = none := F₅.up.free hT₅
  have hbT : base.get? h₅.objs.size = none := get?_none_of_stays F₅.up.2 hT₅
  have hbL : base.get? L = none := F₇.base C.K
  have hLT : L ≠ h₅.objs.size := fun q => by obtain ⟨o, _, _, ho, _⟩ := F₅.ns; rw [q, hT₅] at ho; cases ho
  have hl1₇ : h₇.IsList D1 ys1.toArray := lk₅₇ _ _ (lk₃₅ _ _ (pk₃ _ _ hp1).isList)
  have hTD : h₅.objs.size ≠ D1 := fun q => isList_some (lk₃₅ _ _ (pk₃ _ _ hp1).isList) (q ▸ hT₅)
  have hLD : L ≠ D1 := fun q => not_list_of_ns F₇.ns (q ▸ hl1₇)
  have q1₇ : All2 (TreeAt h₇ ok) (dedA ts1) ys1 := qa1.imp fun _ _ z => ((z.lk lk₁₃).lk lk₃₅).lk lk₅₇
  have q2₇ : All2 (TreeAt h₇ ok) (dedA ts2) ys2 := qa2.imp fun _ _ z => (z.lk lk₃₅).lk lk₅₇
  have okW : ∀ a, ok a → ¬ (a = L ∨ a = h₅.objs.size) := fun a o q => q.elim (fun q => nok F₇.free (q ▸ o)) fun q => nok hhT (q ▸ o)
  -- the loop
  refine wpAny_execs_cons (wpAny_Try_except ?_)
  refine wpAny_execs_cons (For_walkE base
    (EB := fun x s' => ∃ e h' tk' h₈ m₈, x = .ref e ∧ s' = S r h' tk' ∧ FrX base h L h₈ m₈ ∧ Heap.NewExc h₈ h' e "ValueError" ∧ ∃ a ∈ dedA ts1, a ∉ dedA ts2) ?hEB (fun b => b = L ∨ b = h₅.objs.size)
    (J := fun i hh m => m (Str.ofString "t") = some (.ref h₅.objs.size) ∧ ∃ us xs, hh.PlainList h₅.objs.size (List.toArray xs) ∧ us.Nodup ∧ (∀ b, b ∈ us ↔ b ∈ dedA ts2 ∧ b ∉ (dedA ts1).take i) ∧ (∀ a ∈ (dedA ts1).take i, a ∈ dedA ts2) ∧ All2 (TreeAt hh ok) us xs) ?hJ ?_)
  case hJ =>
    rintro i h h' m m' ⟨e, us, xs, l, n1, n2, n3, q⟩ lk pk hm
    exact ⟨(hm _ (by decide)).trans e, us, xs, pk _ _ l, n1, n2, n3, q.imp fun _ _ z => z.lk lk⟩
  case hEB =>
    rintro x s' ⟨e, h', tk', h₈, m₈, rfl, rfl, F₈, hx, a, ha, hab⟩
    have F₉ := F₈.stays hx.keeps
    have C₉ := push _ _ F₉
    obtain ⟨ob, t, he, hc, hdt⟩ := hx.there
    have hhe : h.get? e = none := F₈.up.free hx.new
    refine caughtLoop (X := "ValueError") C₉ (Around.frames_deeper hfr) rfl he hc hdt (get?_none_of_stays F₈.up.2 hx.new) bbValueError rfl (by decide) PySem.F.isExc_ValueError PySem.F.notTuple_ValueError (by rw [isSubtype_type]; kernel_rfl) fun h₁₀ T' hT' hTe' u hex => ?_
    have hhT' : h.get? T' = none := F₉.up.free hT'
    have hLe : L ≠ e := fun q => by obtain ⟨o, _, _, ho, _⟩ := F₈.ns; rw [q, hx.new] at ho; cases ho
    have hLT' : L ≠ T' := fun q => by obtain ⟨o, _, _, ho, _⟩ := F₉.ns; rw [q, hT'] at ho; cases ho
    have F₁₀ := F₉.kp u (u.ns F₉.ns fun q => q.elim hLe hLT') fun b q => q.elim (fun q => q ▸ hhe) fun q => q ▸ hhT'
    refine wpAny_execs_cons (wpAny_Return_some (wpAny_Constant_bool ?_))
    refine ret _ h₁₀ tk' F₁₀.up ⟨false, rfl, ?_⟩
    constructor
    · intro q; cases q
    · intro q
      exact absurd ((mem_dedA _ _).mpr ((q a).mp ((mem_dedA _ _).mp ha))) hab
  refine nmL hn₇ rfl ?_
  refine iters_listX (fun b => b = L ∨ b = h₅.objs.size) hh hl1₇ (fun q => q.elim (fun q => hLD q.symm) fun q => hTD q.symm) (fun q => q.elim (fun q => absurd F₇.ns.lt (by rw [← q]; exact Nat.lt_irrefl _)) fun q => absurd (isList_lt hTl.isList) (by rw [← q]; exact Nat.lt_irrefl _)) fun it g₂ It => ?_
  refine ⟨_, _, _, h₇, g₂, _, rfl, It, .inl rfl, F₇.up.2, hbL, F₇.ns, ⟨rfl, dedA ts2, ys2, hTl, hB2, by simp, by simp, q2₇⟩, ?_, ?_⟩
  · rintro i v h₈ m₈ tk₈ hi hv u₈ hn₈ hx ⟨ht, us, xs, hl₈, hnu, hmem, hsub, hq₈⟩
    have F₈ := F₇.kp u₈ hn₈ fun b q => q.elim (fun q => q ▸ F₇.free) fun q => q ▸ hhT
    obtain ⟨a, ha, hav⟩ := q1₇.flip.get hv
    have hav₈ : TreeAt h₈ ok a v := u₈.tree okW hav
    have haA : a ∈ dedA ts1 := List.mem_of_getElem? ha
    have hna : a ∉ (dedA ts1).take i := not_mem_take hB1 ha
    have hus : us.length ≤ 1000 := by
      have h1 : us.length ≤ (dedA ts2).length := nodup_len hnu fun b hb => ((hmem b).mp hb).1
      have := dedA_len_le ts2
      omega
    have hxs : xs.length ≤ 100000 := by rw [← hq₈.length]; omega
    have he : ∀ b y, TreeAt h₈ ok b y → eT h₈ y v = same b a := fun b y z => eT_same z.any hav₈.any
    refine wpAny_execs_cons (exec_remove (e := eT h₈) hh hn₈ ht hx hl₈ hxs (fun y hy => ?_) (fun xs' hr h₉ sb hl₉ => ?_) (fun hr h' tk' ex hx => ?_) rfl (fun Q s h => MethodCall_ h))
    · obtain ⟨b, hb, hby⟩ := hq₈.flip.mem_left hy
      rw [he b y hby]
      have hb2 := hh2 b ((mem_dedA _ _).mp ((hmem b).mp hb).1)
      refine tree_eqAt b a y v _ _ hby.any hav₈.any (LK.refl _) ?_
      simp only [Around.deeper, Around.in1]; omega
    · by_cases hau : a ∈ us
      · obtain ⟨xs'', hr', q'⟩ := rmL_some he hq₈ hnu hau
        rw [hr] at hr'; cases hr'
        have u₉ : UpW (fun b => b = L ∨ b = h₅.objs.size) base h₈ h₉ := UpW.of_same (.inr rfl) sb u₈.2 hbT
        refine wpAny_execs_nil ⟨.inl rfl, h₉, _, m₈, rfl, u₉, hn₈.sameBut sb hLT, ht, _, _, hl₉, hnu.filter _, fun b => ?_, fun b hb => ?_, q'.imp fun _ _ z => u₉.tree okW z⟩
        · rw [List.mem_filter, hmem, mem_take_succ ha]
          constructor
          · rintro ⟨⟨h1, h2⟩, h3⟩
            refine ⟨h1, fun q => q.elim h2 fun q => ?_⟩
            rw [q, same_self] at h3; cases h3
          · rintro ⟨h1, h2⟩
            refine ⟨⟨h1, fun q => h2 (.inl q)⟩, ?_⟩
            rw [same_false.mpr fun q => h2 (.inr q)]; rfl
        · rcases (mem_take_succ ha).mp hb with hb | rfl
          · exact hsub b hb
          · exact ((hmem _).mp hau).1
      · rw [rmL_none he hq₈ hau] at hr; cases hr
    · refine ⟨ex, h', tk', h₈, m₈, rfl, rfl, F₈, hx, a, haA, fun hab => ?_⟩
      obtain ⟨xs'', hr', _⟩ := rmL_some he hq₈ hnu ((hmem a).mpr ⟨hab, hna⟩)
      rw [hr] at hr'; cases hr'
  · rintro h₈ tk₈ m₈ u₈ hn₈ ⟨ht, us, xs, hl₈, hnu, hmem, hsub, hq₈⟩
    have F₈ := F₇.kp u₈ hn₈ fun b q => q.elim (fun q => q ▸ F₇.free) fun q => q ▸ hhT
    have hxs : xs.length ≤ 1000 := by
      have h1 : us.length ≤ (dedA ts2).length := nodup_len hnu fun b hb => ((hmem b).mp hb).1
      have := dedA_len_le ts2
      rw [← hq₈.length]; omega
    rw [← q1₇.length, List.take_length] at hmem hsub
    refine wpAny_execs_nil (wpAny_execs_nil ?_)
    refine wpAny_execs_cons (wpAny_Return_some (wpAny_UnaryOp (nmL hn₈ ht (not_value (wpAny_truthy_list (s := S r h₈ tk₈) hl₈.isList (by rw [List.size_toArray]; omega) ?_)))))
    refine ret _ h₈ _ F₈.up ⟨_, rfl, ?_⟩
    have e1 : (!!xs.toArray.isEmpty) = true ↔ us = [] := by
      rw [Bool.not_not]
      have := hq₈.length
      constructor
      · intro q
        have : xs = [] := by simpa using q
        rw [this] at hq₈
        cases hq₈; rfl
      · intro q
        rw [q] at hq₈
        cases hq₈; rfl
    rw [e1]
    constructor
    · intro q t
      rw [q] at hmem
      constructor
      · intro ht; exact (mem_dedA _ _).mp (hsub t ((mem_dedA _ _).mpr ht))
      · intro ht
        by_cases hA : t ∈ dedA ts1
        · exact (mem_dedA _ _).mp hA
        · have := (hmem t).mpr ⟨(mem_dedA _ _).mpr ht, hA⟩
          cases this
    · intro q
      cases us with
      | nil => rfl
      | cons b us =>
        have := (hmem b).mp (.head _)
        exact absurd ((mem_dedA _ _).mpr ((q b).mpr ((mem_dedA _ _).mp this.1))) this.2
end Mine

namespace Mine

theorem hts_le' : ∀ {ks : List Tree} {n : Nat}, (∀ k ∈ ks, k.ht + 1 ≤ n) → hts ks ≤ n
  | [], _, _ => Nat.zero_le _
  | k :: ks, n, h => by rw [hts]; exact Nat.max_le.mpr ⟨h k (.head _), hts_le' fun k' hk => h k' (.tail _ hk)⟩
/-! ### rows that are being grown -/
abbrev OkG (h0 : Heap) (P : Addr) (path : List Addr) : Addr → Prop := fun x => x ∉ path ∧ x ≠ P ∧ h0.get? x = none
def Anc (h : Heap) (ok : Addr → Prop) : Addr → List Addr → Nat → Nat → Prop
  | _, [], d, w => d = 4 ∧ w = 0
  | c, b :: bs, d, w => ∃ (ks : List Tree) (vs : List Value) (w' : Nat), h.PlainList b (List.toArray (vs ++ [.ref c])) ∧ All2 (TreeAt h ok) ks vs ∧ (∀ k ∈ ks, k.ht ≤ d) ∧ w = weights ks + 1 + w' ∧ Anc h ok b bs (d + 1) w'
theorem Anc.len {h : Heap} {ok : Addr → Prop} : ∀ {bs : List Addr} {c : Addr} {d w : Nat}, Anc h ok c bs d w → d + bs.length = 4
  | [], _, _, _, x => x.1
  | _ :: bs, _, d, _, x => by
    obtain ⟨ks, vs, w', _, _, _, _, y⟩ := x
    have := y.len
    rw [List.length_cons]; omega
theorem Anc.mono {h h' : Heap} {ok ok' : Addr → Prop} (ht : ∀ t v, TreeAt h ok t v → TreeAt h' ok' t v) : ∀ {bs : List Addr} {c : Addr} {d w : Nat}, (∀ b ∈ bs, ∀ xs, h.PlainList b xs → h'.PlainList b xs) → Anc h ok c bs d w → Anc h' ok' c bs d w
  | [], _, _, _, _, x => x
  | b :: bs, _, d, _, hp, x => by
    obtain ⟨ks, vs, w', l, q, hh, e, y⟩ := x
    exact ⟨ks, vs, w', hp b (.head _) _ l, q.imp fun _ _ z => ht _ _ z, hh, e, y.mono ht fun b hb => hp b (.tail _ hb)⟩
theorem weights_snoc (ks : List Tree) (k : Tree) : weights (ks ++ [k]) = weights ks + k.weight := by rw [weights_append]; simp [weights]
theorem closeA {h : Heap} {ok : Addr → Prop} {R : Addr} : ∀ {bs : List Addr} {c : Addr} {d w : Nat} {t : Tree}, TreeAt h ok t (.ref c) → t.ht ≤ d → Anc h ok c bs d w → (∀ b ∈ bs, ok b) → (c :: bs).getLast? = some R →
    ∃ t', TreeAt h ok t' (.ref R) ∧ t'.ht ≤ 4 ∧ t'.weight = t.weight + w
  | [], c, d, w, t, ht, hd, x, _, e => by
    simp at e; subst e
    exact ⟨t, ht, by rw [← x.1]; exact hd, by rw [x.2]; rfl⟩
  | b :: bs, c, d, w, t, ht, hd, x, hb, e => by
    obtain ⟨ks, vs, w', l, q, hh, e1, y⟩ := x
    have t1 : TreeAt h ok (.node (ks ++ [t])) (.ref b) := treeAt_iff.mpr ⟨b, vs ++ [.ref c], rfl, hb b (.head _), l.isList, q.snoc ht⟩
    have h1 : (Tree.node (ks ++ [t])).ht ≤ d + 1 := by
      rw [Tree.ht]
      refine hts_le' fun k hk => ?_
      rcases List.mem_append.mp hk with hk | hk
      · exact Nat.succ_le_succ (hh k hk)
      · rw [List.mem_singleton.mp hk]; exact Nat.succ_le_succ hd
    obtain ⟨t', a1, a2, a3⟩ := closeA t1 h1 y (fun b' hb' => hb b' (.tail _ hb')) (by simpa using e)
    refine ⟨t', a1, a2, ?_⟩
    rw [a3, Tree.weight, weights_snoc, e1]; omega

structure Gs (h0 : Heap) (I P R : Addr) (hh : Heap) (a : Addr) (bs : List Addr) (ks : List Tree) (vs : List Value) (d w room : Nat) : Prop where
  path : hh.PlainList P (List.toArray ((a :: bs).reverse.map Value.ref))
  row : hh.PlainList a (List.toArray vs)
  kids : All2 (TreeAt hh (OkG h0 P (a :: bs))) ks vs
  hts : ∀ k ∈ ks, k.ht + 1 ≤ d
  anc : Anc hh (OkG h0 P (a :: bs)) a bs d w
  sum : room + weights ks + w = 12
  nd : (a :: bs).Nodup
  nP : P ∉ a :: bs
  free : ∀ b, b = P ∨ b ∈ a :: bs → h0.get? b = none ∧ b ≠ I
  root : (a :: bs).getLast? = some R

section
variable {h0 hh h' : Heap} {I P R a : Addr} {bs : List Addr} {ks : List Tree} {vs : List Value} {d w room : Nat}

theorem Gs.keep (G : Gs h0 I P R hh a bs ks vs d w room) (lk : LK hh h') (pk : PK hh h') : Gs h0 I P R h' a bs ks vs d w room :=
  ⟨pk _ _ G.path, pk _ _ G.row, G.kids.imp fun _ _ z => z.lk lk, G.hts, G.anc.mono (fun _ _ z => z.lk lk) fun _ _ _ l => pk _ _ l, G.sum, G.nd, G.nP, G.free, G.root⟩
theorem Gs.start {R P : Addr} (hR : hh.PlainList R #[]) (hP : hh.PlainList P #[.ref R]) (hRP : P ≠ R) (f1 : h0.get? R = none) (f2 : h0.get? P = none) (i1 : R ≠ I) (i2 : P ≠ I) : Gs h0 I P R hh R [] [] [] 4 0 12 :=
  ⟨hP, hR, .nil, fun k hk => by simp at hk, ⟨rfl, rfl⟩, rfl, by simp, by simpa using hRP, fun b hb => by
    rcases hb with rfl | hb
    · exact ⟨f2, i2⟩
    · rw [List.mem_singleton.mp hb]; exact ⟨f1, i1⟩, rfl⟩
theorem Gs.push (G : Gs h0 I P R hh a bs ks vs d w room) {f : Addr} (hd : 1 ≤ d) (hr : 1 ≤ room) (hf : hh.get? f = none) (hf0 : h0.get? f = none) (hfI : f ≠ I)
    (k : ∀ b xs, b ≠ a → b ≠ P → hh.IsList b xs → h'.IsList b xs) (kp : ∀ b xs, b ≠ a → b ≠ P → hh.PlainList b xs → h'.PlainList b xs)
    (ha : h'.PlainList a (List.toArray (vs ++ [.ref f]))) (hp : h'.PlainList P (List.toArray ((a :: bs).reverse.map Value.ref ++ [.ref f]))) (hl : h'.PlainList f #[]) :
    Gs h0 I P R h' f (a :: bs) [] [] (d - 1) (weights ks + 1 + w) (room - 1) := by
  have hfp : f ∉ a :: bs := fun q => by
    rcases List.mem_cons.mp q with e | q
    · exact isList_some G.row.isList (e ▸ hf)
    · have gen : ∀ {ok : Addr → Prop} {bs : List Addr} {c : Addr} {d w : Nat}, Anc hh ok c bs d w → f ∉ bs := by
        intro ok bs
        induction bs with
        | nil => intro c d w _ q; cases q
        | cons b bs ih =>
          intro c d w x q
          obtain ⟨ks, vs, w', l, _, _, _, y⟩ := x
          rcases List.mem_cons.mp q with e | q
          · exact isList_some l.isList (e ▸ hf)
          · exact ih y q
      exact gen G.anc q
  have hfP : f ≠ P := fun q => isList_some G.path.isList (q ▸ hf)
  have tr : ∀ t v, TreeAt hh (OkG h0 P (a :: bs)) t v → TreeAt h' (OkG h0 P (f :: a :: bs)) t v := fun t v z => z.mono fun b xs o l =>
    ⟨⟨fun q => by
      rcases List.mem_cons.mp q with e | q
      · exact isList_some l (e ▸ hf)
      · exact o.1 q, o.2.1, o.2.2⟩, k b xs (fun q => o.1 (q ▸ .head _)) o.2.1 l⟩
  have hnd := List.nodup_cons.mp G.nd
  refine ⟨by simpa using hp, hl, .nil, fun k hk => by simp at hk, ⟨ks, vs, w, ha, G.kids.imp fun _ _ z => tr _ _ z, fun k hk => by have := G.hts k hk; omega, rfl, ?_⟩, ?_, List.nodup_cons.mpr ⟨hfp, G.nd⟩, ?_, ?_, ?_⟩
  · have e : d - 1 + 1 = d := by omega
    rw [e]
    exact G.anc.mono tr fun b hb xs l => kp b xs (fun q => hnd.1 (q ▸ hb)) (fun q => G.nP (q ▸ .tail _ hb)) l
  · have := G.sum
    simp only [weights]; omega
  · intro q
    rcases List.mem_cons.mp q with e | q
    · exact hfP e.symm
    · exact G.nP q
  · intro b hb
    rcases hb with rfl | hb
    · exact G.free _ (.inl rfl)
    · rcases List.mem_cons.mp hb with rfl | hb
      · exact ⟨hf0, hfI⟩
      · exact G.free _ (.inr hb)
  · have := G.root
    rw [List.getLast?_cons_cons]; exact this
theorem Gs.ext (G : Gs h0 I P R hh a bs ks vs d w room) {t : Tree} {v : Value} (hv : TreeAt hh (OkG h0 P (a :: bs)) t v) (ht : t.ht + 1 ≤ d) (hw : t.weight ≤ room)
    (k : ∀ b xs, b ≠ a → hh.IsList b xs → h'.IsList b xs) (kp : ∀ b xs, b ≠ a → hh.PlainList b xs → h'.PlainList b xs) (ha : h'.PlainList a (List.toArray (vs ++ [v]))) :
    Gs h0 I P R h' a bs (ks ++ [t]) (vs ++ [v]) d w (room - t.weight) := by
  have tr : ∀ t v, TreeAt hh (OkG h0 P (a :: bs)) t v → TreeAt h' (OkG h0 P (a :: bs)) t v := fun t v z => z.mono fun b xs o l => ⟨o, k b xs (fun q => o.1 (q ▸ .head _)) l⟩
  have hnd := List.nodup_cons.mp G.nd
  refine ⟨kp _ _ (fun q => G.nP (q ▸ .head _)) G.path, ha, (G.kids.imp fun _ _ z => tr _ _ z).snoc (tr _ _ hv), fun k hk => ?_, G.anc.mono tr fun b hb xs l => kp b xs (fun q => hnd.1 (q ▸ hb)) l, ?_, G.nd, G.nP, G.free, G.root⟩
  · rcases List.mem_append.mp hk with hk | hk
    · exact G.hts k hk
    · rw [List.mem_singleton.mp hk]; exact ht
  · have := G.sum
    rw [weights_snoc]; omega
theorem Gs.pop {b : Addr} (G : Gs h0 I P R hh a (b :: bs) ks vs d w room) (k : ∀ b xs, b ≠ P → hh.IsList b xs → h'.IsList b xs) (kp : ∀ b xs, b ≠ P → hh.PlainList b xs → h'.PlainList b xs)
    (hp : h'.PlainList P (List.toArray ((b :: bs).reverse.map Value.ref))) : ∃ ks' vs' w', Gs h0 I P R h' b bs ks' vs' (d + 1) w' room := by
  have hnd := List.nodup_cons.mp G.nd
  have tr : ∀ t v, TreeAt hh (OkG h0 P (a :: b :: bs)) t v → TreeAt h' (OkG h0 P (b :: bs)) t v := fun t v z => z.mono fun c xs o l => ⟨⟨fun q => o.1 (.tail _ q), o.2.1, o.2.2⟩, k c xs o.2.1 l⟩
  obtain ⟨ks1, vs1, w1, l1, q1, hh1, e1, y⟩ := G.anc
  have haP : a ≠ P := fun q => G.nP (q ▸ .head _)
  have hbP : b ≠ P := fun q => G.nP (q ▸ .tail _ (.head _))
  have t1 : TreeAt h' (OkG h0 P (b :: bs)) (.node ks) (.ref a) := treeAt_iff.mpr ⟨a, vs, rfl, ⟨hnd.1, haP, (G.free a (.inr (.head _))).1⟩, k _ _ haP G.row.isList, G.kids.imp fun _ _ z => tr _ _ z⟩
  refine ⟨ks1 ++ [.node ks], vs1 ++ [.ref a], w1, hp, kp _ _ hbP l1, (q1.imp fun _ _ z => tr _ _ z).snoc t1, fun k hk => ?_, y.mono tr fun c hc xs l => kp c xs (fun q => G.nP (q ▸ .tail _ (.tail _ hc))) l, ?_, hnd.2, fun q => G.nP (.tail _ q), fun c hc => G.free c (hc.imp id fun q => .tail _ q), ?_⟩
  · rcases List.mem_append.mp hk with hk | hk
    · exact Nat.succ_le_succ (hh1 k hk)
    · rw [List.mem_singleton.mp hk, Tree.ht]
      exact Nat.succ_le_succ (hts_le' fun k hk => G.hts k hk)
  · have := G.sum
    rw [weights_snoc, Tree.weight]; omega
  · have := G.root
    rw [List.getLast?_cons_cons] at this; exact this
theorem Gs.close (G : Gs h0 I P R hh a bs ks vs d w room) : ∃ t, TreeAt hh (Free h0) t (.ref R) ∧ t.ht ≤ 4 ∧ t.weight ≤ 13 := by
  have tr : ∀ t v, TreeAt hh (OkG h0 P (a :: bs)) t v → TreeAt hh (Free h0) t v := fun t v z => z.mono fun c xs o l => ⟨o.2.2, l⟩
  have t1 : TreeAt hh (Free h0) (.node ks) (.ref a) := treeAt_iff.mpr ⟨a, vs, rfl, (G.free a (.inr (.head _))).1, G.row.isList, G.kids.imp fun _ _ z => tr _ _ z⟩
  obtain ⟨t', a1, a2, a3⟩ := closeA t1 (by rw [Tree.ht]; exact hts_le' fun k hk => G.hts k hk) (G.anc.mono tr fun _ _ _ l => l) (fun b hb => (G.free b (.inr (.tail _ hb))).1) G.root
  refine ⟨t', a1, a2, ?_⟩
  have := G.sum
  rw [a3, Tree.weight]; omega
end
end Mine

namespace Mine

def KL (X : Addr → Prop) (h h' : Heap) : Prop := (∀ b xs, ¬ X b → h.IsList b xs → h'.IsList b xs) ∧ (∀ b xs, ¬ X b → h.PlainList b xs → h'.PlainList b xs)
theorem KL.trans {X : Addr → Prop} {a b c : Heap} (x : KL X a b) (y : KL X b c) : KL X a c := ⟨fun d xs n l => y.1 d xs n (x.1 d xs n l), fun d xs n l => y.2 d xs n (x.2 d xs n l)⟩
theorem KL.of_lk {X : Addr → Prop} {h h' : Heap} (l : LK h h') (p : PK h h') : KL X h h' := ⟨fun b xs _ x => l b xs x, fun b xs _ x => p b xs x⟩
theorem KL.of_stays {X : Addr → Prop} {h h' : Heap} (k : h.StaysIn h') : KL X h h' := .of_lk (LK.of_stays k) (PK.of_stays k)
theorem KL.of_ns {X : Addr → Prop} {h h' : Heap} {L : Addr} {m : Str → Option Value} (hn : h.Ns L m) (k : Heap.SameBut L h h') : KL X h h' := .of_lk (LK.of_same (fun _ => not_list_of_ns hn) k) (PK.of_same (fun _ => not_list_of_ns hn) k)
theorem KL.of_same {X : Addr → Prop} {h h' : Heap} {L : Addr} (hX : X L) (k : Heap.SameBut L h h') : KL X h h' :=
  ⟨fun b xs n l => l.extBut k.extBut (fun q => n (q ▸ hX)), fun b xs n l => l.extBut k.extBut fun q => n (q ▸ hX)⟩

theorem bbLen : bootBuiltins (Str.ofString "len") = some (.builtin "len") := by decide +kernel
section
variable {w : World} {A : Around} {E : Value → Shared → Prop} {s r : Shared} {h : Heap} {tk : Nat} {env : Env}
theorem isubS {a b : Int} {t u : Tok} {Q : Value → Shared → Prop} (hQ : Q (.int (a - b) tk) (S r h (tk + 1))) : wpAny (model PG w) A (inplaceOp .Sub (.int a t) (.int b u)) Q E (S r h tk) := PyProof.Rows.isub_int (s := S r h tk) hQ
theorem modS {a b : Int} {t u : Tok} {Q : Value → Shared → Prop} (hb : b ≠ 0) (hQ : Q (.int (a.fmod b) tk) (S r h (tk + 1))) : wpAny (model PG w) A (binaryOp .Mod (.int a t) (.int b u)) Q E (S r h tk) := PyProof.Rows.mod_int (s := S r h tk) hb hQ
/-- `len(name)` of a list -/
theorem lenS {x : Str} {l : Addr} {xs : List Value} {m : Str → Option Value} {p1 p2 pos : Pos} {A' : Around} {Q : Value → Shared → Prop} (C : Cx w A' h) (hn : h.Ns env.locals m) (hm : m x = some (.ref l)) (hl : h.IsList l xs.toArray) (hsz : xs.length ≤ 100000)
    (hQ : ∀ t tk', Q (.int (xs.length : Nat) t) (S r h tk'))
    (hs : starEach [Expr.Name x p2] env = [(false, eval (.Name x p2) env)])
    (hc : eval (.Call (.Name (Str.ofString "len") p1) [.Name x p2] [] pos) env = (do let fv ← eval (.Name (Str.ofString "len") p1) env; callWith pos fv [] (backTo pos (starEach [.Name x p2] env)) (backToKw pos (keywordEach [] env))))
    (hg : env.globals = mainGlobals := by rfl) (hb : env.builtins = builtinsNs := by rfl) (hk : env.scope.kind = .function := by rfl) (hx : env.kindOf (Str.ofString "len") = some .globalImplicit := by rfl)
    (hlx : env.kindOf x = some .local := by rfl) (hd : (x == ("__debug__" : Str)) = false := by decide) :
    wpAny (model PG w) A (eval (.Call (.Name (Str.ofString "len") p1) [.Name x p2] [] pos) env) Q E (S r h tk) := by
  refine Call_ (nmB C rfl bbLen (by decide) ?_ hg hb hk hx) hc
  show wpAny _ _ (callWith pos (.builtin "len") [] (backTo pos (starEach [.Name x p2] env)) []) _ _ _
  refine callWith_method1 (spliced_more ?_ (by rw [hs]; rfl)) (by rw [hs]; rfl) (by rfl)
  refine nmL hn hm (wpAny_pure ?_) hk hlx hd
  show wpAny _ _ (call (.builtin "len") [.ref l]) _ _ _
  refine len_list (s := S r h tk) hl (by rw [List.size_toArray]; omega) ?_
  have := hQ (tk + 1) (tk + 1 + 1)
  simpa using this
/-- `name[k]` of a list, `k` in range -/
theorem itemS {x : Str} {l : Addr} {xs : List Value} {m : Str → Option Value} {p1 pos : Pos} {slice : Expr} {Q : Value → Shared → Prop} (hn : h.Ns env.locals m) (hm : m x = some (.ref l))
    (hq : wpAny (model PG w) A (eval slice env) (fun i s₁ => ∃ k t y tk', i = .int k t ∧ s₁ = S r h tk' ∧ h.IsList l xs.toArray ∧ ((0 ≤ k ∧ k < 1000000 ∧ xs[k.toNat]? = some y) ∨ (k = -1 ∧ xs ≠ [] ∧ xs.getLast? = some y)) ∧ Q y (S r h tk')) E (S r h tk))
    (hs : ∀ k u, subscripted slice false (.ref l) (.int k u) = operate [.ref l, .int k u] (getItem (.ref l) (.int k u)))
    (hg : ∀ r, letTemporaryGo (.Name x p1) (.ref l) r = pure ())
    (hk : env.scope.kind = .function := by rfl) (hlx : env.kindOf x = some .local := by rfl) (hd : (x == ("__debug__" : Str)) = false := by decide) :
    wpAny (model PG w) A (eval (.Subscript (.Name x p1) slice pos) env) Q E (S r h tk) := by
  refine Subscript_ (nmL hn hm (wpAny_mono hq (fun i s₁ h₁ => ?_) fun _ _ e => e) hk hlx hd)
  obtain ⟨k, t, y, tk', rfl, rfl, hl, hy, hQ⟩ := h₁
  refine subscriptTail_builtin (T := "list") (hl.typeIs (s := S r h tk')) slot_list_getitem.lookup ?_ (hs k t) hg
  rcases hy with ⟨h0, h1, hy⟩ | ⟨rfl, hne, hy⟩
  · exact getItem_listL (s := S r h tk') hl h0 (by omega) hy hQ
  · have hpos : 0 < xs.length := List.length_pos_iff.mpr hne
    refine wpAny_getItem_list_neg (s := S r h tk') hl (by decide) (by rw [List.size_toArray]; omega) (by decide) ?_ hQ
    rw [List.size_toArray, show (-1 + (xs.length : Int)).toNat = xs.length - 1 by omega]
    rw [List.getLast?_eq_getElem?] at hy
    simpa using hy

/-- `name.pop()` as a statement -/
theorem exec_pop {x : Str} {p1 p2 p3 p4 : Pos} {D : Addr} {ys : List Value} {y : Value} {m : Str → Option Value} {pl : Sem Bool} {Q : Flow → Shared → Prop}
    (hn : h.Ns env.locals m) (hx : m x = some (.ref D)) (hD : h.PlainList D (List.toArray (ys ++ [y]))) (hsz : ys.length ≤ 100000)
    (hQ : ∀ h', Heap.SameBut D h h' → h'.PlainList D ys.toArray → Q .next (S r h' tk))
    (hc : ∀ (Q : Value → Shared → Prop) (s : Shared), wpAny (model PG w) A (eval (.Name x p1) env) (fun ov s₁ => wpAny (model PG w) A (getMethod ov (Str.ofString "pop") pl)
        (fun fx s₂ => wpAny (model PG w) A (callWith p3 fx.1 fx.2 (backTo p3 (starEach [] env)) []) Q E s₂) E s₁) E s → wpAny (model PG w) A (eval (.Call (.Attribute (.Name x p1) (Str.ofString "pop") p2) [] [] p3) env) Q E s)
    (hk : env.scope.kind = .function := by rfl) (hl : env.kindOf x = some .local := by rfl) (hd : (x == ("__debug__" : Str)) = false := by decide)
    (hi : interactive env = false := by rfl)
    (hw : swapsWith (.Call (.Attribute (.Name x p1) (Str.ofString "pop") p2) [] [] p3) none p4.line env = pure false := by rfl) :
    wpAny (model PG w) A (exec (.Expr (.Call (.Attribute (.Name x p1) (Str.ofString "pop") p2) [] [] p3) p4) env) Q E (S r h tk) := by
  refine wpAny_Expr_any (hc _ _ (nmL hn hx ?_ hk hl hd)) hi hw
  obtain ⟨n, ho⟩ := id hD
  refine getMethod_builtin (s := S r h tk) ⟨_, ho, rfl⟩ PySem.F.plainAttrs_list PySem.F.slot_list_pop PySem.F.type_list_pop (fun a e => by cases e; exact ⟨_, ho, rfl⟩) ?_
  refine callWith_method0 ?_
  refine call_meets (s := S r h tk) PySem.F.slot_list_pop ⟨_, ho, rfl⟩ PySem.F.entry_list_pop (PySem.F.args_list_pop_1 _) (MeetsSeq.list_pop_last D _ n y (by simp) (by rw [List.size_toArray, List.length_append, sizeLine_eq]; simp; omega)) ⟨ho, ?_⟩
  refine hQ _ (Heap.SameBut.update ..) ?_
  have e : (ys ++ [y]).toArray.eraseIdxIfInBounds ((ys ++ [y]).toArray.size - 1) = ys.toArray := by
    apply Array.toList_inj.mp
    rw [Array.toList_eraseIdxIfInBounds]
    simp [List.eraseIdx_append_of_length_le]
  have := get?_update_seq ho fun xs => xs.eraseIdxIfInBounds ((ys ++ [y]).toArray.size - 1)
  rw [e] at this
  exact ⟨_, this⟩

/-- a loop over a list, whose body may write at all places that were free, but the iterator's -/
theorem For_listG {hz : Heap} {tz : Nat} {x : Str} {px pos : Pos} {iter : Expr} {body : List Stmt} {Q : Flow → Shared → Prop} {l : Addr} {vs : List Value} {m : Str → Option Value} {g₁ : Heap} (W : Addr → Prop) (J : Nat → Heap → (Str → Option Value) → Prop)
    (hh : A.handled = none)
    (hJ : ∀ i h h' m m', J i h m → LK h h' → PK h h' → (∀ y, y ≠ x → m' y = m y) → J i h' m')
    (hl1 : g₁.IsList l vs.toArray) (hWL : W env.locals) (hWl : ¬ W l) (hWI : ¬ W g₁.objs.size) (hn : g₁.Ns env.locals m) (h0 : J 0 g₁ m)
    (he : ∀ Q', Q' (.ref l) (S r g₁ tk) → wpAny (model PG w) A (eval iter env) Q' E (S r hz tz))
    (turn : ∀ i v h₂ m₂ tk, i < vs.length → vs[i]? = some v → Kp W g₁ h₂ → h₂.get? g₁.objs.size ≠ none → h₂.Ns env.locals m₂ → m₂ x = some v → J i h₂ m₂ →
        wpAny (model PG w) A (execs body env) (fun fl s₃ => (fl = .next ∨ fl = .cont) ∧ ∃ h₃ tk₃ m₃, s₃ = S r h₃ tk₃ ∧ Kp W h₂ h₃ ∧ h₃.Ns env.locals m₃ ∧ J (i + 1) h₃ m₃) NoE (S r h₂ tk))
    (done : ∀ h' tk m', Kp W g₁ h' → h'.Ns env.locals m' → J vs.length h' m' → Q .next (S r h' tk))
    (hl : env.kindOf x = some .local := by rfl) (hp : (env.scope.kind == .class || (env.scope.kind == .module && env.locals != env.globals)) = false := by rfl)
    (hs : ∀ x, foldedSetIterable iter env x = pure x := by intro _; rfl) :
    wpAny (model PG w) A (exec (.For (.Name x px) iter body [] pos) env) Q E (S r hz tz) := by
  refine wpAny_For (he _ ?_) hs
  have hll := isList_lt hl1
  refine wpAny_pyIter_list (s := S r g₁ tk) hl1 ?_
  have Wk0 := Walks.list (prog := PG) (w := w) hh g₁.objs.size l (Nat.ne_of_lt hll) vs.toArray
  have Wk : Walks PG w A g₁.objs.size [g₁.objs.size, l] [g₁.objs.size] vs.length (fun i v => vs[i]? = some v) fun i q => q.IsListIter g₁.objs.size l i ∧ q.IsList l vs.toArray := by simpa using Wk0
  obtain ⟨g₂, hg₂⟩ : ∃ g₂, g₂ = g₁.push { cls := .type "list_iterator", data := .fields #[.ref l, .int 0 0] } := ⟨_, rfl⟩
  have hst : (fun i (q : Heap) => q.IsListIter g₁.objs.size l i ∧ q.IsList l vs.toArray) 0 g₂ := by
    rw [hg₂]
    exact ⟨⟨_, Heap.get?_push_size _ rfl, rfl, rfl⟩, LK.of_stays (stays_push _ _) _ _ hl1⟩
  have hk : g₁.StaysIn g₂ := by rw [hg₂]; exact stays_push _ _
  have hnl : ∀ (i : Nat) (h' : Heap), h'.IsListIter g₁.objs.size l i → ∀ b ∈ [g₁.objs.size], ∀ xs, ¬ h'.IsList b xs := by
    intro i h' st b hb xs x
    rw [List.mem_singleton.mp hb] at x
    obtain ⟨o, ho, hc, _⟩ := x
    obtain ⟨o', ho', hc', _⟩ := st
    rw [ho] at ho'; cases ho'; rw [hc] at hc'; exact absurd hc' (by simp)
  have hfp : ∀ b ∈ [g₁.objs.size, l], ¬ W b := fun b hb => by
    rcases List.mem_cons.mp hb with rfl | hb
    · exact hWI
    · rw [List.mem_singleton.mp hb]; exact hWl
  have hwr : ∀ b ∈ [g₁.objs.size], g₁.get? b = none := fun b hb => by rw [List.mem_singleton.mp hb]; exact get?_ge (Nat.le_refl _)
  have hLf : env.locals ∉ [g₁.objs.size, l] := fun q => hfp _ q hWL
  have hLw : env.locals ∉ [g₁.objs.size] := fun q => hLf (Wk.sub _ q)
  have lkw : ∀ i (h h' : Heap), h.IsListIter g₁.objs.size l i → (∀ b o, b ∉ [g₁.objs.size] → h.get? b = some o → h'.get? b = some o) → LK h h' := fun i h h' st k a xs x => by
    obtain ⟨o, ho, r⟩ := id x
    exact ⟨o, k a o (fun q => hnl i h st a q xs x) ho, r⟩
  have pkw : ∀ i (h h' : Heap), h.IsListIter g₁.objs.size l i → (∀ b o, b ∉ [g₁.objs.size] → h.get? b = some o → h'.get? b = some o) → PK h h' := fun i h h' st k a xs x => x.at fun o e => k a o (fun q => hnl i h st a q xs x.isList) e
  have kpw : ∀ h h', Kp W g₁ h → (∀ b o, b ∉ [g₁.objs.size] → h.get? b = some o → h'.get? b = some o) → Kp W g₁ h' := fun h h' k k' b o nb e =>
    k' b o (fun q => by rw [hwr b q] at e; cases e) (k b o nb e)
  show codeAny (model PG w) A _ _ (S r (g₁.push { cls := .type "list_iterator", data := .fields #[.ref l, .int 0 0] }) tk)
  rw [← hg₂]
  refine codeAny_forLoop (fun k s' => ∃ (h' : Heap) (tk : Nat) (m' : Str → Option Value) (i : Nat), s' = S r h' tk ∧ (h'.IsListIter g₁.objs.size l i ∧ h'.IsList l vs.toArray) ∧ Kp W g₁ h' ∧ h'.Ns env.locals m' ∧ J i h' m' ∧ i ≤ vs.length ∧ k = vs.length + 1 - i) ?_ (vs.length + 1)
    ⟨g₂, tk, m, 0, rfl, hst, Kp.of_stays hk, hn.keeps hk, hJ _ _ _ _ _ h0 (LK.of_stays hk) (PK.of_stays hk) fun _ _ => rfl, Nat.zero_le _, rfl⟩
  rintro k s' ⟨h', tk, m', i, rfl, hst', hkp, hns, hj, hi, rfl⟩
  by_cases hlt : i < vs.length
  · refine Wk.item i _ _ _ hlt hst' fun v h₁ tk₁ hPv hst₁ hk₁ => ?_
    have hns₁ : h₁.Ns env.locals m' := hns.at' fun o e => hk₁ _ o hLw e
    refine wpAny_assign_Name (wpAny_storeName_local hl hns₁ (fun h₂ hn₂ hs₂ => ?_) hp)
    have hst₂ := Wk.frame _ _ h₂ hst₁ fun b hb o e => hs₂.extBut b o (fun q => hLf (q ▸ hb)) e
    have lk₂ : LK h' h₂ := (lkw _ _ _ hst'.1 hk₁).trans (LK.of_same (fun xs => not_list_of_ns hns₁) hs₂)
    have pk₂ : PK h' h₂ := (pkw _ _ _ hst'.1 hk₁).trans (PK.of_same (fun xs => not_list_of_ns hns₁) hs₂)
    have kp₂ : Kp W g₁ h₂ := (kpw _ _ hkp hk₁).trans (Kp.of_same hWL hs₂)
    have j₂ : J i h₂ (fun y => if y = x then some v else m' y) := hJ _ _ _ _ _ hj lk₂ pk₂ fun y hy => by simp [hy]
    have hI : h₂.get? g₁.objs.size ≠ none := fun q => by
      obtain ⟨o, ho, _⟩ := hst₂.1
      rw [q] at ho; cases ho
    refine wpAny_mono (noE (turn i v h₂ _ _ hlt hPv kp₂ hI hn₂ upd_self j₂)) (fun fl s₃ h₃ => ?_) fun _ _ e => e
    obtain ⟨hf, h₃, tk₃, m₃, rfl, kp₃, hn₃, j₃⟩ := h₃
    have fin : ∃ mm, mm < vs.length + 1 - i ∧ ∃ (h' : Heap) (tk : Nat) (m' : Str → Option Value) (i : Nat), S r h₃ tk₃ = S r h' tk ∧ (h'.IsListIter g₁.objs.size l i ∧ h'.IsList l vs.toArray) ∧ Kp W g₁ h' ∧ h'.Ns env.locals m' ∧ J i h' m' ∧ i ≤ vs.length ∧ mm = vs.length + 1 - i :=
      ⟨vs.length + 1 - (i + 1), by omega, h₃, tk₃, m₃, i + 1, rfl, Wk.frame _ _ _ hst₂ fun b hb o e => kp₃ b o (hfp b hb) e, kp₂.trans kp₃, hn₃, j₃, hlt, rfl⟩
    rcases hf with rfl | rfl <;> exact fin
  · have hin : i = vs.length := by omega
    subst hin
    refine Wk.done _ _ _ hst' fun h₁ tk₁ hk₁ => wpAny_execs_nil ?_
    exact done h₁ tk₁ m' (kpw _ _ hkp hk₁) (hns.at' fun o e => hk₁ _ o hLw e) (hJ _ _ _ _ _ hj (lkw _ _ _ hst'.1 hk₁) (pkw _ _ _ hst'.1 hk₁) fun _ _ => rfl)
end
end Mine

namespace Mine

theorem getLast_path {α β : Type} (f : α → β) (a : α) (bs : List α) : ((a :: bs).reverse.map f).getLast? = some (f a) := by simp
theorem path_ne {α β : Type} (f : α → β) (a : α) (bs : List α) : ((a :: bs).reverse.map f) ≠ [] := by simp

theorem Anc.fresh {hh : Heap} {ok : Addr → Prop} {f : Addr} (hf : hh.get? f = none) : ∀ {bs : List Addr} {c : Addr} {d w : Nat}, Anc hh ok c bs d w → f ∉ bs
  | [], _, _, _, _, q => by cases q
  | b :: bs, _, _, _, x, q => by
    obtain ⟨ks, vs, w', l, _, _, _, y⟩ := x
    rcases List.mem_cons.mp q with e | q
    · exact isList_some l.isList (e ▸ hf)
    · exact Anc.fresh hf y q
theorem hts_append : ∀ a b, hts (a ++ b) = max (hts a) (hts b)
  | [], b => by simp [hts]
  | k :: a, b => by rw [List.cons_append, hts, hts, hts_append a b, Nat.max_assoc]
theorem turn_ht_weight : ∀ t : Tree, t.turn.ht = t.ht ∧ t.turn.weight = t.weight := treeInd fun ks ih => by
  have gen : ∀ ks : List Tree, (∀ k ∈ ks, k.turn.ht = k.ht ∧ k.turn.weight = k.weight) → hts (turns ks) = hts ks ∧ weights (turns ks) = weights ks := by
    intro ks
    induction ks with
    | nil => intro _; exact ⟨rfl, rfl⟩
    | cons k ks ih2 =>
      intro h
      have h1 := h k (.head _)
      have h2 := ih2 fun k' hk => h k' (.tail _ hk)
      constructor
      · rw [turns, hts_append, h2.1, hts, hts, hts, h1.1]
        omega
      · rw [turns, weights_snoc, h2.2, weights, h1.2]; omega
  rw [Tree.turn, Tree.ht, Tree.ht, Tree.weight, Tree.weight, (gen ks ih).1, (gen ks ih).2]
  exact ⟨rfl, rfl⟩

theorem grown_spec (w : World) {l : Addr} {ns : List Int} {vs : List Value} {h : Heap} (hl : h.IsList l vs.toArray) (hq : All2 IntV ns vs) :
    Spec w 20 55 [.ref l] [] h (fun h' r => ∃ t, TreeAt h' (Free h) t r ∧ t.ht ≤ 4 ∧ t.weight ≤ 13) := by
  intro A r tk Q E C hh hd hu ret
  have hrl : recursionLimit = 1000 := rfl
  refine enter C (by omega) (f := 55) (binds := [(Str.ofString "numbers", .ref l)]) rfl rfl (BindsTo.of_eq rfl) rfl (fun L h₁ tk₁ F push => ?_)
  refine wpAny_execs_cons (wpAny_Assign_Name (List_ (wpAny_pure ?_)))
  refine newListP (fun R h₂ k₂ hR₁ hR₂ => stS (F.ns.keeps k₂) fun h₃ hn₃ hs₃ => ?_) (Nat.zero_le _)
  have F₂ : Fr h L h₂ _ := ⟨F.ns.keeps k₂, stays_trans F.keep k₂, F.above⟩
  have F₃ := F₂.set hn₃ hs₃
  have hR₃ := PK.of_same (fun xs => not_list_of_ns F₂.ns) hs₃ _ _ hR₂
  have hRh : h.get? R = none := get?_none_of_stays F.keep hR₁
  refine wpAny_execs_cons (wpAny_Assign_Name (List_ (spliced_more (nmL hn₃ rfl (wpAny_pure ?_)))))
  refine newListP (fun P h₄ k₄ hP₃ hP₄ => stS (hn₃.keeps k₄) fun h₅ hn₅ hs₅ => ?_) (by rw [sizeLine_eq]; simp)
  have F₄ : Fr h L h₄ _ := ⟨hn₃.keeps k₄, stays_trans F₃.keep k₄, F.above⟩
  have F₅ := F₄.set hn₅ hs₅
  have hP₅ := PK.of_same (fun xs => not_list_of_ns F₄.ns) hs₅ _ _ hP₄
  have hR₅ := PK.of_same (fun xs => not_list_of_ns F₄.ns) hs₅ _ _ (PK.of_stays k₄ _ _ hR₃)
  have hPh : h.get? P = none := get?_none_of_stays F₃.keep hP₃
  have hPR : P ≠ R := fun q => isList_some hR₃.isList (q ▸ hP₃)
  refine wpAny_execs_cons (wpAny_Assign_Name (cInt (stS hn₅ fun h₆ hn₆ hs₆ => ?_)))
  have F₆ := F₅.set hn₆ hs₆
  have hP₆ := PK.of_same (fun xs => not_list_of_ns F₅.ns) hs₆ _ _ hP₅
  have hR₆ := PK.of_same (fun xs => not_list_of_ns F₅.ns) hs₆ _ _ hR₅
  have hl₆ := LK.of_stays F₆.keep _ _ hl
  obtain ⟨I, hI⟩ : ∃ I, I = h₆.objs.size := ⟨_, rfl⟩
  have hRI : R ≠ I := fun q => absurd (isList_lt hR₆.isList) (by rw [q, hI]; exact Nat.lt_irrefl _)
  have hPI : P ≠ I := fun q => absurd (isList_lt hP₆.isList) (by rw [q, hI]; exact Nat.lt_irrefl _)
  have hLI : L ≠ I := fun q => absurd F₆.ns.lt (by rw [q, hI]; exact Nat.lt_irrefl _)
  have hWL : h.get? L = none ∧ L ≠ I := ⟨frFree F₆, hLI⟩
  refine wpAny_execs_cons (For_listG (W := fun b => h.get? b = none ∧ b ≠ I)
    (J := fun i hh m => ∃ P R a bs ks vs d w room, m (Str.ofString "root") = some (.ref R) ∧ m (Str.ofString "path") = some (.ref P) ∧ (∃ t, m (Str.ofString "room") = some (.int (room : Nat) t)) ∧ Gs h I P R hh a bs ks vs d w room)
    hh ?hJ hl₆ hWL (fun q => isList_some hl q.1) (fun q => q.2 hI.symm) F₆.ns ⟨P, R, R, [], [], [], 4, 0, 12, rfl, rfl, ⟨_, rfl⟩, Gs.start hR₆ hP₆ hPR hRh hPh hRI hPI⟩ (fun Q' hq' => nmL F₆.ns rfl hq') ?turn ?done)
  case hJ =>
    rintro i h h' m m' ⟨P, R, a, bs, ks, vs, d, w, room, e1, e2, ⟨t, e3⟩, G⟩ lk pk hm
    exact ⟨P, R, a, bs, ks, vs, d, w, room, (hm _ (by decide)).trans e1, (hm _ (by decide)).trans e2, ⟨t, (hm _ (by decide)).trans e3⟩, G.keep lk pk⟩
  case done =>
    rintro h' tk' m' kp hn' ⟨P, R, a, bs, ks, vs, d, w, room, e1, e2, _, G⟩
    have F' := frKp F₆ kp hn' fun b hb => hb.1
    obtain ⟨t, a1, a2, a3⟩ := G.close
    refine wpAny_execs_cons (wpAny_Return_some (nmL hn' e1 ?_))
    exact ret _ h' tk' F'.keep ⟨t, a1, a2, a3⟩
  case turn =>
    rintro i v h₂ m₂ tk₂ hi hv kp hIn hn₂ hx ⟨P, R, a, bs, ks, vs, d, w', room, e1, e2, ⟨tr, e3⟩, G⟩
    rw [← hI] at hIn
    obtain ⟨n, _, t, rfl⟩ := hq.flip.get hv
    have F₂ := frKp F₆ kp hn₂ fun b hb => hb.1
    have hWa : h.get? a = none ∧ a ≠ I := G.free a (.inr (.head _))
    have hWP : h.get? P = none ∧ P ≠ I := G.free P (.inl rfl)
    have hks : ks.length ≤ 12 := by have := len_weights ks; have := G.sum; omega
    have hvs : vs.length ≤ 12 := by rw [← G.kids.length]; exact hks
    have hlen := G.anc.len
    have hm0 : 0 ≤ n.fmod 5 := Int.fmod_nonneg_of_pos n (by decide)
    have hm5 : n.fmod 5 < 5 := Int.fmod_lt_of_pos n (by decide)
    -- pick
    refine wpAny_execs_cons (wpAny_Assign_Name (wpAny_BinOp (nmL hn₂ hx (cInt (modS (by decide) (stS hn₂ fun h₃ hn₃ hs₃ => ?_))))))
    have G₃ := G.keep (LK.of_same (fun xs => not_list_of_ns hn₂) hs₃) (PK.of_same (fun xs => not_list_of_ns hn₂) hs₃)
    have kp₃ : Kp (fun b => h.get? b = none ∧ b ≠ I) h₂ h₃ := Kp.of_same hWL hs₃
    -- row
    refine wpAny_execs_cons (wpAny_Assign_Name (itemS hn₃ e2 (wpAny_UnaryOp (cInt (negS ⟨-1, _, .ref a, _, rfl, rfl, G₃.path.isList, .inr ⟨rfl, path_ne _ _ _, getLast_path _ _ _⟩, ?_⟩))) (fun _ _ => by with_unfolding_all rfl) (fun _ => by with_unfolding_all rfl)))
    refine stS hn₃ fun h₄ hn₄ hs₄ => ?_
    have G₄ := G₃.keep (LK.of_same (fun xs => not_list_of_ns hn₃) hs₄) (PK.of_same (fun xs => not_list_of_ns hn₃) hs₄)
    have kp₄ : Kp (fun b => h.get? b = none ∧ b ≠ I) h₂ h₄ := kp₃.trans (Kp.of_same hWL hs₄)
    have F₄ := frKp F₂ kp₄ hn₄ fun b hb => hb.1
    have C₄ := push _ _ F₄
    have hI₄ : h₄.get? I ≠ none := fun q => by
      cases e : h₂.get? I with
      | none => exact hIn e
      | some o => rw [kp₄ I o (fun z => z.2 rfl) e] at q; cases q
    have hLa : L ≠ a := fun q => not_list_of_ns hn₄ (q ▸ G₄.row.isList)
    have hLP : L ≠ P := fun q => not_list_of_ns hn₄ (q ▸ G₄.path.isList)
    have haP : a ≠ P := fun q => G.nP (q ▸ .head _)
    refine wpAny_execs_cons (wpAny_If (wpAny_isTrue_Compare1 (nmL hn₄ rfl (cInt (lt_int (wpAny_truthy_bool ?_))))))
    have noop : ∃ P R a bs ks vs d w room, m₂ (Str.ofString "root") = some (.ref R) ∧ m₂ (Str.ofString "path") = some (.ref P) ∧ (∃ t, m₂ (Str.ofString "room") = some (.int (room : Nat) t)) ∧ Gs h I P R h₄ a bs ks vs d w room :=
      ⟨P, R, a, bs, ks, vs, d, w', room, e1, e2, ⟨tr, e3⟩, G₄⟩
    have el : ((a :: bs).reverse.map Value.ref).length = bs.length + 1 := by simp
    have e2' := e2
    by_cases hp2 : n.fmod 5 < 2
    · rw [decide_eq_true hp2]
      simp only [if_true]
      refine wpAny_execs_cons (wpAny_If (wpAny_isTrue_BoolOp (wpAny_allTrue_And_cons (wpAny_isTrue_Compare1 (lenS C₄ hn₄ e2 G₄.path.isList (by rw [el]; omega) (fun t' tk' => cInt (lt_int (wpAny_truthy_bool ?_))) rfl rfl)))))
      rw [el]
      by_cases hb4 : bs.length < 4
      · rw [decide_eq_true (show ((bs.length + 1 : Nat) : Int) < 5 by omega)]
        simp only [if_true]
        refine wpAny_allTrue_And_cons (wpAny_isTrue_Compare1 (nmL hn₄ e3 (cInt (PyProof.Rows.gt_int (wpAny_truthy_bool ?_)))))
        by_cases hr0 : 0 < room
        · rw [decide_eq_true (show (0 : Int) < (room : Nat) by omega)]
          simp only [if_true]
          refine wpAny_allTrue_And_nil ?_
          simp only [if_true]
          refine wpAny_execs_cons (wpAny_Assign_Name (List_ (wpAny_pure ?_)))
          refine newListP (fun f h₅ k₅ hf₄ hf₅ => stS (hn₄.keeps k₅) fun h₆' hn₆' hs₆' => ?_) (Nat.zero_le _)
          have hn₅ := hn₄.keeps k₅
          have hff : h.get? f = none := get?_none_of_stays F₄.keep hf₄
          have hfI : f ≠ I := fun q => hI₄ (q ▸ hf₄)
          have pk₆ : PK h₄ h₆' := (PK.of_stays k₅).trans (PK.of_same (fun xs => not_list_of_ns hn₅) hs₆')
          have hf₆ := PK.of_same (fun xs => not_list_of_ns hn₅) hs₆' _ _ hf₅
          have hfa : f ≠ a := fun q => isList_some G₄.row.isList (q ▸ hf₄)
          have hfP : f ≠ P := fun q => isList_some G₄.path.isList (q ▸ hf₄)
          have hfL : f ≠ L := fun q => not_list_of_ns hn₆' (q ▸ hf₆.isList)
          have kl₆ : KL (fun b => b = a ∨ b = P) h₄ h₆' := (KL.of_stays k₅).trans (KL.of_ns hn₅ hs₆')
          refine wpAny_execs_cons (exec_append hn₆' rfl (pk₆ _ _ G₄.row) (by omega) (nmL hn₆' rfl ⟨h₆', _, rfl, stays_refl _, fun h₇ hs₇ hp₇ => ?_⟩))
          have hn₇ := hn₆'.sameBut hs₇ hLa
          have kl₇ := kl₆.trans (KL.of_same (.inl rfl) hs₇)
          refine wpAny_execs_cons (exec_append hn₇ e2 ((pk₆ _ _ G₄.path).extBut hs₇.extBut (Ne.symm haP)) (by rw [el]; omega) (nmL hn₇ rfl ⟨h₇, _, rfl, stays_refl _, fun h₈ hs₈ hp₈ => ?_⟩))
          have hn₈ := hn₇.sameBut hs₈ hLP
          have kl₈ := kl₇.trans (KL.of_same (.inr rfl) hs₈)
          refine wpAny_execs_cons (wpAny_AugAssign_Name (wpAny_loadName_local rfl rfl hn₈ e3 (cInt (isubS (stS hn₈ fun h₉ hn₉ hs₉ => ?_)))))
          have kl₉ := kl₈.trans (KL.of_ns hn₈ hs₉)
          have pk₉ := PK.of_same (fun xs => not_list_of_ns hn₈) hs₉
          have kp₉ : Kp (fun b => h.get? b = none ∧ b ≠ I) h₂ h₉ := ((((kp₄.trans (Kp.of_stays k₅)).trans (Kp.of_same hWL hs₆')).trans (Kp.of_same hWa hs₇)).trans (Kp.of_same hWP hs₈)).trans (Kp.of_same hWL hs₉)
          have G₉ := G₄.push (h' := h₉) (f := f) (by omega) hr0 hf₄ hff hfI (fun b xs n1 n2 l => kl₉.1 b xs (fun q => q.elim n1 n2) l) (fun b xs n1 n2 l => kl₉.2 b xs (fun q => q.elim n1 n2) l)
            (pk₉ _ _ (hp₇.extBut hs₈.extBut haP)) (pk₉ _ _ hp₈) (pk₉ _ _ ((hf₆.extBut hs₇.extBut hfa).extBut hs₈.extBut hfP))
          have er : ((room : Nat) : Int) - 1 = ((room - 1 : Nat) : Int) := by omega
          rw [er] at hn₉
          refine wpAny_execs_nil (wpAny_execs_nil (wpAny_execs_nil ⟨.inl rfl, h₉, _, _, rfl, kp₉, hn₉, P, R, f, a :: bs, [], [], d - 1, _, room - 1, e1, e2, ⟨_, rfl⟩, G₉⟩))
        · rw [decide_eq_false (show ¬ (0 : Int) < (room : Nat) by omega)]
          simp only [Bool.false_eq_true, if_false]
          exact wpAny_execs_nil (wpAny_execs_nil (wpAny_execs_nil ⟨.inl rfl, h₄, _, _, rfl, kp₄, hn₄, noop⟩))
      · rw [decide_eq_false (show ¬ ((bs.length + 1 : Nat) : Int) < 5 by omega)]
        simp only [Bool.false_eq_true, if_false]
        exact wpAny_execs_nil (wpAny_execs_nil (wpAny_execs_nil ⟨.inl rfl, h₄, _, _, rfl, kp₄, hn₄, noop⟩))
    · rw [decide_eq_false hp2]
      simp only [Bool.false_eq_true, if_false]
      refine wpAny_execs_cons (wpAny_If (wpAny_isTrue_Compare1 (nmL hn₄ rfl (cInt (PyProof.Rows.eq_int (wpAny_truthy_bool ?_))))))
      by_cases hpe : n.fmod 5 = 2
      · rw [show (n.fmod 5 == 2) = true by rw [hpe]; rfl]
        simp only [if_true]
        refine wpAny_execs_cons (wpAny_If (wpAny_isTrue_Compare1 (lenS C₄ hn₄ e2 G₄.path.isList (by rw [el]; omega) (fun t' tk' => cInt (PyProof.Rows.gt_int (wpAny_truthy_bool ?_))) rfl rfl)))
        rw [el]
        cases bs with
        | nil =>
          rw [decide_eq_false (by simp)]
          simp only [Bool.false_eq_true, if_false]
          exact wpAny_execs_nil (wpAny_execs_nil (wpAny_execs_nil (wpAny_execs_nil ⟨.inl rfl, h₄, _, _, rfl, kp₄, hn₄, noop⟩)))
        | cons b bs =>
          rw [decide_eq_true (show (1 : Int) < (((b :: bs).length + 1 : Nat) : Int) by simp; omega)]
          simp only [if_true]
          have ep : ((a :: b :: bs).reverse.map Value.ref) = ((b :: bs).reverse.map Value.ref) ++ [.ref a] := by simp
          have hpl : h₄.PlainList P (List.toArray (((b :: bs).reverse.map Value.ref) ++ [.ref a])) := by rw [← ep]; exact G₄.path
          refine wpAny_execs_cons (exec_pop hn₄ e2 hpl (by simp; simp at hlen; omega) (fun h₅ hs₅ hp₅ => ?_) (fun Q s h => MethodCall_ h))
          obtain ⟨ks', vs', w'', G₅⟩ := G₄.pop (h' := h₅) (fun c xs n1 l => l.extBut hs₅.extBut n1) (fun c xs n1 l => l.extBut hs₅.extBut n1) hp₅
          exact wpAny_execs_nil (wpAny_execs_nil (wpAny_execs_nil (wpAny_execs_nil ⟨.inl rfl, h₅, _, _, rfl, kp₄.trans (Kp.of_same hWP hs₅), hn₄.sameBut hs₅ hLP, P, R, b, bs, ks', vs', d + 1, w'', room, e1, e2, ⟨tr, e3⟩, G₅⟩)))
      · rw [show (n.fmod 5 == 2) = false by rw [beq_eq_false_iff_ne]; exact hpe]
        simp only [Bool.false_eq_true, if_false]
        refine wpAny_execs_cons (wpAny_If (isTrue_plain (nmL hn₄ rfl (wpAny_truthy_list (s := S r h₄ _) G₄.row.isList (by rw [List.size_toArray]; omega) ?_))))
        by_cases hvn : vs = []
        · rw [show (!vs.toArray.isEmpty) = false by rw [hvn]; rfl]
          simp only [Bool.false_eq_true, if_false]
          exact wpAny_execs_nil (wpAny_execs_nil (wpAny_execs_nil (wpAny_execs_nil ⟨.inl rfl, h₄, _, _, rfl, kp₄, hn₄, noop⟩)))
        · rw [show (!vs.toArray.isEmpty) = true by simp [hvn]]
          simp only [if_true]
          refine wpAny_execs_cons (wpAny_Assign_Name (wpAny_mono (Q := fun v s₁ => ∃ h₅ tk₅ t, s₁ = S r h₅ tk₅ ∧ h₄.StaysIn h₅ ∧ TreeAt h₅ (OkG h P (a :: bs)) t v ∧ t.ht + 1 ≤ d ∧ t.weight ≤ 12) (IfExp_ (wpAny_isTrue_Compare1 (nmL hn₄ rfl (cInt (PyProof.Rows.eq_int (wpAny_truthy_bool ?_)))))) (fun v s₁ h₁' => ?_) fun _ _ e => e))
          · have tree : ∀ (j : Nat) y, vs[j]? = some y → ∃ t, TreeAt h₄ (OkG h P (a :: bs)) t y ∧ t.ht + 1 ≤ d ∧ t.weight ≤ 12 := fun j y hy => by
              obtain ⟨t, ht, hty⟩ := G₄.kids.flip.get hy
              have hm := List.mem_of_getElem? ht
              have hw1 := weight_mem hm
              have hs1 := G₄.sum
              exact ⟨t, hty, G₄.hts t hm, by omega⟩
            have hpos : 0 < vs.length := List.length_pos_iff.mpr hvn
            by_cases hp3 : n.fmod 5 = 3
            · rw [show (n.fmod 5 == 3) = true by rw [hp3]; rfl]
              simp only [if_true]
              obtain ⟨y, hy⟩ : ∃ y, vs.getLast? = some y := ⟨_, List.getLast?_eq_some_getLast hvn⟩
              have hy' := hy
              rw [List.getLast?_eq_getElem?] at hy'
              obtain ⟨t, hty, hth, htw⟩ := tree _ y hy'
              refine call1 C₄ rfl rfl (itemS hn₄ rfl (wpAny_UnaryOp (cInt (negS ⟨-1, _, y, _, rfl, rfl, G₄.row.isList, .inr ⟨rfl, hvn, hy⟩, C₄.X, ?_⟩))) (fun _ _ => by with_unfolding_all rfl) (fun _ => by with_unfolding_all rfl))
              have hd4 : d ≤ 4 := by omega
              refine turned_spec w t h₄ y (by omega) hty.any _ _ _ _ _ C₄ hh (by simp only [Around.deeper]; omega) (by simp only [Around.deeper]; omega) ?_
              rintro v' h₅ tk₅ k₅ hv'
              have ht2 := turn_ht_weight t
              refine ⟨h₅, tk₅, t.turn, rfl, k₅, hv'.mono fun x xs o l => ⟨⟨fun q => ?_, fun q => isList_some G₄.path.isList (q ▸ o), get?_none_of_stays F₄.keep o⟩, l⟩, by rw [ht2.1]; exact hth, by rw [ht2.2]; exact htw⟩
              rcases List.mem_cons.mp q with e | q
              · exact isList_some G₄.row.isList (e ▸ o)
              · exact Anc.fresh o G₄.anc q
            · rw [show (n.fmod 5 == 3) = false by rw [beq_eq_false_iff_ne]; exact hp3]
              simp only [Bool.false_eq_true, if_false]
              obtain ⟨y, hy⟩ : ∃ y, vs[0]? = some y := ⟨_, List.getElem?_eq_getElem hpos⟩
              obtain ⟨t, hty, hth, htw⟩ := tree _ y hy
              refine itemS hn₄ rfl (cInt ⟨0, _, y, _, rfl, rfl, G₄.row.isList, .inl ⟨by decide, by decide, hy⟩, ?_⟩) (fun _ _ => by with_unfolding_all rfl) (fun _ => by with_unfolding_all rfl)
              exact ⟨h₄, _, t, rfl, stays_refl _, hty, hth, htw⟩
          · obtain ⟨h₅, tk₅, t, rfl, k₅, htv, hht, htw⟩ := h₁'
            have hn₅ := hn₄.keeps k₅
            have G₅ := G₄.keep (LK.of_stays k₅) (PK.of_stays k₅)
            refine stS hn₅ fun h₆' hn₆' hs₆' => ?_
            have lk₆ := LK.of_same (fun xs => not_list_of_ns hn₅) hs₆'
            have G₆ := G₅.keep lk₆ (PK.of_same (fun xs => not_list_of_ns hn₅) hs₆')
            have kp₆ : Kp (fun b => h.get? b = none ∧ b ≠ I) h₂ h₆' := (kp₄.trans (Kp.of_stays k₅)).trans (Kp.of_same hWL hs₆')
            have F₆' := frKp F₂ kp₆ hn₆' fun b hb => hb.1
            have C₆ := push _ _ F₆'
            have htv₆ := htv.lk lk₆
            refine wpAny_execs_cons (wpAny_Assign_Name (call1 C₆ rfl rfl (nmL hn₆' rfl ⟨C₆.X, ?_⟩)))
            have hd4 : d ≤ 4 := by omega
            refine weight_spec w t h₆' v htv₆.any _ _ _ _ _ C₆ hh (by simp only [Around.deeper]; omega) (by simp only [Around.deeper]; omega) ?_
            rintro _ h₇ tk₇ k₇ ⟨tw, rfl⟩
            have hn₇ := hn₆'.keeps k₇
            refine stS hn₇ fun h₈ hn₈ hs₈ => ?_
            have lk₈ : LK h₆' h₈ := (LK.of_stays k₇).trans (LK.of_same (fun xs => not_list_of_ns hn₇) hs₈)
            have G₈ := G₆.keep lk₈ ((PK.of_stays k₇).trans (PK.of_same (fun xs => not_list_of_ns hn₇) hs₈))
            have kp₈ : Kp (fun b => h.get? b = none ∧ b ≠ I) h₂ h₈ := (kp₆.trans (Kp.of_stays k₇)).trans (Kp.of_same hWL hs₈)
            have htv₈ := htv₆.lk lk₈
            refine wpAny_execs_cons (wpAny_If (wpAny_isTrue_Compare1 (nmL hn₈ rfl (nmL hn₈ e3 (PyProof.Rows.le_int (wpAny_truthy_bool ?_))))))
            by_cases hwr : t.weight ≤ room
            · rw [decide_eq_true (show (t.weight : Int) ≤ (room : Nat) by omega)]
              simp only [if_true]
              refine wpAny_execs_cons (exec_append hn₈ rfl G₈.row (by omega) (nmL hn₈ rfl ⟨h₈, _, rfl, stays_refl _, fun h₉ hs₉ hp₉ => ?_⟩))
              have hn₉ := hn₈.sameBut hs₉ hLa
              refine wpAny_execs_cons (wpAny_AugAssign_Name (wpAny_loadName_local rfl rfl hn₉ e3 (nmL hn₉ rfl (isubS (stS hn₉ fun h₀ hn₀ hs₀ => ?_)))))
              have kl : KL (fun b => b = a) h₈ h₀ := (KL.of_same (X := fun b => b = a) rfl hs₉).trans (KL.of_ns hn₉ hs₀)
              have G₀ := G₈.ext (h' := h₀) htv₈ hht hwr (fun b xs n1 l => kl.1 b xs n1 l) (fun b xs n1 l => kl.2 b xs n1 l) (PK.of_same (fun xs => not_list_of_ns hn₉) hs₀ _ _ hp₉)
              have er : ((room : Nat) : Int) - (t.weight : Nat) = ((room - t.weight : Nat) : Int) := by omega
              rw [er] at hn₀
              exact wpAny_execs_nil (wpAny_execs_nil (wpAny_execs_nil (wpAny_execs_nil (wpAny_execs_nil ⟨.inl rfl, h₀, _, _, rfl, (kp₈.trans (Kp.of_same hWa hs₉)).trans (Kp.of_same hWL hs₀), hn₀, P, R, a, bs, _, _, d, w', _, e1, e2, ⟨_, rfl⟩, G₀⟩))))
            · rw [decide_eq_false (show ¬ (t.weight : Int) ≤ (room : Nat) by omega)]
              simp only [Bool.false_eq_true, if_false]
              exact wpAny_execs_nil (wpAny_execs_nil (wpAny_execs_nil (wpAny_execs_nil (wpAny_execs_nil ⟨.inl rfl, h₈, _, _, rfl, kp₈, hn₈, P, R, a, bs, ks, vs, d, w', room, e1, e2, ⟨tr, e3⟩, G₈⟩))))
end Mine

namespace Mine

theorem add_of_or : ∀ {c x : Nat}, x.testBit c = false → 2 ^ c ||| x = 2 ^ c + x
  | 0, x, h => by
    have h0 : x % 2 = 0 := by
      rw [Nat.testBit_zero] at h
      have := of_decide_eq_false h
      omega
    have h1 := Nat.or_div_two (a := 1) (b := x)
    have h2 : (1 ||| x) % 2 = 1 := Nat.or_mod_two_eq_one.mpr (.inl rfl)
    simp at h1
    show 1 ||| x = 1 + x
    omega
  | c + 1, x, h => by
    rw [Nat.testBit_succ] at h
    have ih := add_of_or h
    have h1 := Nat.or_div_two (a := 2 ^ (c + 1)) (b := x)
    have e : 2 ^ (c + 1) / 2 = 2 ^ c := by rw [Nat.pow_succ]; omega
    have e2 : 2 ^ (c + 1) = 2 * 2 ^ c := by rw [Nat.pow_succ]; omega
    rw [e, ih] at h1
    have h2 : (2 ^ (c + 1) ||| x) % 2 = x % 2 := by
      have := @Nat.or_mod_two_eq_one (2 ^ (c + 1)) x
      rcases Nat.mod_two_eq_zero_or_one x with q | q
      · rcases Nat.mod_two_eq_zero_or_one (2 ^ (c + 1) ||| x) with z | z
        · omega
        · rcases this.mp z with y | y
          · rw [e2] at y; omega
          · omega
      · rw [this.mpr (.inr q), q]
    omega
def orAll : List Nat → Nat
  | [] => 0
  | c :: l => 2 ^ c ||| orAll l
theorem orAll_bit : ∀ (l : List Nat) (p : Nat), (orAll l).testBit p = true ↔ p ∈ l
  | [], p => by simp [orAll]
  | c :: l, p => by
    rw [orAll, Nat.testBit_or, Bool.or_eq_true, orAll_bit l p, testBit_two_pow', decide_eq_true_iff, List.mem_cons]
    constructor
    · rintro (h | h)
      · exact .inl h.symm
      · exact .inr h
    · rintro (h | h)
      · exact .inl h.symm
      · exact .inr h
theorem sum_orAll : ∀ {l : List Int}, (∀ n ∈ l, 0 ≤ n) → l.Nodup → (l.map fun n => (2 : Int) ^ n.toNat).sum = ((orAll (l.map Int.toNat) : Nat) : Int)
  | [], _, _ => rfl
  | n :: l, h0, hn => by
    rw [List.nodup_cons] at hn
    have ih := sum_orAll (fun m hm => h0 m (.tail _ hm)) hn.2
    rw [List.map_cons, List.sum_cons, ih, List.map_cons, orAll]
    have hb : (orAll (l.map Int.toNat)).testBit n.toNat = false := by
      cases e : (orAll (l.map Int.toNat)).testBit n.toNat with
      | false => rfl
      | true =>
        obtain ⟨m, hm, e2⟩ := List.mem_map.mp ((orAll_bit _ _).mp e)
        have h1 := h0 n (.head _)
        have h2 := h0 m (.tail _ hm)
        have : m = n := by omega
        exact absurd (this ▸ hm) hn.1
    rw [add_of_or hb]
    push_cast
    rfl
theorem sum_codes (ks : List Tree) : ((dedA (ks.map fun k => (k.num : Int))).map fun n => (2 : Int) ^ n.toNat).sum = ((nums ks : Nat) : Int) := by
  have hm : ∀ n, n ∈ dedA (ks.map fun k => (k.num : Int)) ↔ ∃ k ∈ ks, (k.num : Int) = n := fun n => by rw [mem_dedA, List.mem_map]
  rw [sum_orAll (fun n hn => by obtain ⟨k, _, rfl⟩ := (hm n).mp hn; omega) (nodup_dedA _)]
  congr 1
  refine nat_ext fun p => ?_
  rw [orAll_bit, nums_bit, List.mem_map]
  constructor
  · rintro ⟨n, hn, rfl⟩
    obtain ⟨k, hk, rfl⟩ := (hm n).mp hn
    exact ⟨k, hk, by simp⟩
  · rintro ⟨k, hk, rfl⟩
    exact ⟨k.num, (hm _).mpr ⟨k, hk, rfl⟩, by simp⟩
theorem pick_ints {ns : List Int} {vs : List Value} (q : All2 IntV ns vs) (lo hi st : Option Int) : All2 IntV (pickNums ns lo hi st) (slicePick vs.toArray lo hi st).toList := all2_intsAre ((intsAre_all2 q).pick lo hi st)

theorem subs_ht : ∀ t : Tree, ∀ u ∈ t.subs, u.ht ≤ t.ht := treeInd fun ks ih u hu => by
  rw [Tree.subs] at hu
  rcases List.mem_cons.mp hu with rfl | hu
  · exact Nat.le_refl _
  · have gen : ∀ ks : List Tree, (∀ k ∈ ks, ∀ u ∈ k.subs, u.ht ≤ k.ht) → u ∈ subsL ks → u.ht ≤ hts ks := by
      intro ks
      induction ks with
      | nil => intro _ h; rw [subsL] at h; cases h
      | cons k ks ih2 =>
        intro hk h
        rw [subsL] at h
        rw [hts]
        rcases List.mem_append.mp h with h | h
        · have := hk k (.head _) u h; omega
        · have := ih2 (fun k' hk' => hk k' (.tail _ hk')) h; omega
    rw [Tree.ht]
    exact gen ks ih hu
theorem subs_weight : ∀ t : Tree, ∀ u ∈ t.subs, u.weight ≤ t.weight := treeInd fun ks ih u hu => by
  rw [Tree.subs] at hu
  rcases List.mem_cons.mp hu with rfl | hu
  · exact Nat.le_refl _
  · have gen : ∀ ks : List Tree, (∀ k ∈ ks, ∀ u ∈ k.subs, u.weight ≤ k.weight) → u ∈ subsL ks → u.weight ≤ weights ks := by
      intro ks
      induction ks with
      | nil => intro _ h; rw [subsL] at h; cases h
      | cons k ks ih2 =>
        intro hk h
        rw [subsL] at h
        rw [weights]
        rcases List.mem_append.mp h with h | h
        · have := hk k (.head _) u h; omega
        · have := ih2 (fun k' hk' => hk k' (.tail _ hk')) h; omega
    rw [Tree.weight]
    have := gen ks ih hu
    omega

section
variable {w : World} {A : Around} {E : Value → Shared → Prop} {s r : Shared} {h base : Heap} {tk : Nat} {env : Env}

theorem sumS {l : Addr} {ns : List Int} {vs : List Value} {Q : Value → Shared → Prop} (hh : A.handled = none) (hl : h.IsList l vs.toArray) (hq : All2 IntV ns vs) (hQ : ∀ h' tk' t, h.StaysIn h' → Q (.int ns.sum t) (S r h' tk')) :
    wpAny (model PG w) A (call (.builtin "sum") [.ref l]) Q E (S r h tk) := by
  have hi := intsAre_all2 hq
  obtain ⟨xs, hx⟩ := hi.allInts.items
  have hl' : h.IsList l (intItems xs) := hx ▸ hl
  refine sum_intListG (s := S r h tk) hh hl' fun h' tk' t' k => ?_
  have e : preSum (numAt xs) xs.size = ns.sum := by
    rw [preSum_eq, List.take_of_length_le (by simp), ← nums_intItems, ← hx, show vs.toArray.toList = vs from rfl, hi.numsOf]
  rw [e]
  exact hQ h' tk' t' k
theorem powS {n : Int} {t u : Tok} {Q : Value → Shared → Prop} (h0 : 0 ≤ n) (hn : n ≤ 1000) (hQ : ∀ t' tk', Q (.int ((2 : Int) ^ n.toNat) t') (S r h tk')) : wpAny (model PG w) A (binaryOp .Pow (.int 2 t) (.int n u)) Q E (S r h tk) := by
  by_cases hz : n = 0
  · subst hz
    refine AutoIntOps.pow_0 (s := S r h tk) (by decide) (by decide) ?_
    exact hQ _ _
  · refine AutoIntOps.pow_4 (s := S r h tk) h0 (by simpa using hz) (by decide) (by decide) ?_ ?_
    · have e : Builtin.Int.intBits 2 = 2 := by decide
      have hb : bitsLine = 134217728 := by first | rfl | decide
      unfold Builtin.Int.intTooBig
      rw [e]
      simp only [decide_eq_true_eq]
      omega
    · exact hQ _ _
theorem ne_same {t : Tree} {y x : Value} {Q : Value → Shared → Prop} (hy : TreeAt h Any t y) (hx : TreeAt h Any t x) (hu : A.units + t.ht + 5 < cLine) (hQ : Q (.bool false) (S r h tk)) : wpAny (model PG w) A (compareOp .NotEq y x) Q E (S r h tk) := by
  obtain ⟨ks⟩ := t
  obtain ⟨a, vs, rfl, _, la, qa⟩ := treeAt_iff.mp hy
  obtain ⟨b, ws, rfl, _, lb, qb⟩ := treeAt_iff.mp hx
  have hlen : vs.length = ws.length := by rw [← qa.length, ← qb.length]
  have N : RcNeAt A (S r h tk) (.ref a) (.ref b) (!(List.range vs.toArray.size).all fun _ => true) := by
    refine RcNeAt.lists la lb (by simpa using hlen) (by omega) fun j h1 h2 => ?_
    have h1' : j < vs.length := by simpa using h1
    have h2' : j < ws.length := by simpa using h2
    obtain ⟨k, hkk, hkv⟩ := qa.flip.get (List.getElem?_eq_getElem h1')
    obtain ⟨k', hkk', hkv'⟩ := qb.flip.get (List.getElem?_eq_getElem h2')
    rw [hkk] at hkk'; cases hkk'
    have hht := ht_kid (List.mem_of_getElem? hkk)
    have r := tree_eqAt k k _ _ A.in1 (S r h tk) hkv hkv' (LK.refl _) (by simp only [Around.in1]; omega)
    rw [same_self] at r
    simpa using r
  have e : (!(List.range vs.toArray.size).all fun _ => true) = false := by simp
  rw [e] at N
  exact N PG w E Q hQ
/-- `list(d)` of a dict whose keys are numbers -/
theorem listD {d : Addr} {ns : List Int} {Q : Value → Shared → Prop} (hh : A.handled = none) (hd : h.DictOf (intKind PG w) d (ns.map withNone)) (h84 : 84 < d) (hsz : ns.length ≤ 1000)
    (hQ : ∀ D h' tk' vs, h.StaysIn h' → h.get? D = none → h'.IsList D (List.toArray vs) → All2 IntV ns vs → Q (.ref D) (S r h' tk')) : wpAny (model PG w) A (call (.type "list") [.ref d]) Q E (S r h tk) := by
  have lo : (d == sysModules) = false := by
    rw [beq_eq_false_iff_ne]; intro q; rw [q] at h84; exact absurd h84 (by decide)
  obtain ⟨ep, hat⟩ := hd.dictAt
  refine kdl_call (s := S r h tk) (kdl_dict (knd := intKind PG w) (kvs := ns.map withNone) (ep := ep) lo) hh hat (by rw [List.length_map, sizeLine_eq]; omega) fun h' tk' acc' c' k hD hacc => ?_
  have hlen : acc'.toList.length = ns.length := by have := hacc.1; rw [List.length_map] at this; simpa using this
  refine hQ _ h' tk' acc'.toList k (get?_ge (Nat.le_refl _)) ⟨_, hD, rfl, c', by simp⟩ ?_
  refine All2.of_get hlen.symm fun i n v hn hv => ?_
  obtain ⟨k', x, e1, e2⟩ := hacc.2 i v (by simpa using hv)
  rw [List.getElem?_map, hn] at e1
  simp only [Option.map_some, Option.some.injEq, Prod.mk.injEq] at e1
  obtain ⟨rfl, _⟩ := e1
  obtain ⟨t, e⟩ := Value.isInt_shape e2
  exact ⟨t, e⟩
end
end Mine

namespace Mine

def ItersZ (w : World) (A : Around) (W : Addr → Prop) (g : Heap) (I : Addr) (g₂ : Heap) (n : Nat) (P : Nat → Value → Value → Prop) : Prop :=
  ∃ fp wr Pt St Mid, WalksT PG w A I fp wr n Pt St Mid ∧ St 0 g₂ ∧ g.StaysIn g₂ ∧ (∀ b ∈ fp, ¬ W b ∧ b < g₂.objs.size) ∧ (∀ b ∈ wr, g.get? b = none) ∧ (∀ i h, St i h → ∀ b ∈ wr, ∀ xs, ¬ h.IsList b xs) ∧
    (∀ i T h, Mid i T h → ∀ b ∈ wr, ∀ xs, ¬ h.IsList b xs) ∧ (∀ i h, St i h → ∀ b ∈ fp, ∀ o, h.get? b = some o → NotDict o) ∧ (∀ i vals, Pt i vals → ∃ x y, vals = #[x, y] ∧ P i x y)
theorem bbZip : bootBuiltins (Str.ofString "zip") = some (.type "zip") := by decide +kernel
theorem notDict_fields {h : Heap} {b : Addr} {c : Value} {vs : Array Value} {sl : Array (Option Value)} {dd : Option Addr} (e : h.get? b = some { cls := c, dict := dd, data := .fields vs, slots := sl }) : ∀ o, h.get? b = some o → NotDict o := fun o e' => by
  rw [e] at e'; cases e'; intro es n q; cases q
section
variable {w : World} {A : Around} {E : Value → Shared → Prop} {s r : Shared} {h base : Heap} {tk : Nat} {env : Env}

theorem iters_zip (W : Addr → Prop) {l1 l2 : Addr} {vs1 vs2 : List Value} {Q : Value → Shared → Prop} (hh : A.handled = none) (hl1 : h.IsList l1 vs1.toArray) (hl2 : h.IsList l2 vs2.toArray) (hlen : vs1.length = vs2.length) (hW1 : ¬ W l1) (hW2 : ¬ W l2)
    (hlt : ∀ b, W b → b < h.objs.size)
    (hQ : ∀ z g₂, ItersZ w A W h z g₂ vs1.length (fun i x y => vs1[i]? = some x ∧ vs2[i]? = some y) → Q (.ref z) (S r g₂ tk)) : wpAny (model PG w) A (call (.type "zip") [.ref l1, .ref l2]) Q E (S r h tk) := by
  have a1 := isList_lt hl1
  have a2 := isList_lt hl2
  refine call_zip_2 (s := S r h tk) hl1 hl2 fun h' hz hTI hTO hit1 hit2 hsz hk => hQ _ h' ?_
  have D : ZipApart (h.objs.size + 4) (h.objs.size + 2) (h.objs.size + 3) h.objs.size (h.objs.size + 1) l1 l2 := zipApart_new a1 a2
  have WT := WalksT.zip2 (prog := PG) (w := w) hh _ _ _ _ _ l1 l2 D vs1.toArray vs2.toArray
  have hn : min vs1.toArray.size vs2.toArray.size = vs1.length := by simp [hlen]
  rw [hn] at WT
  have nl : ∀ (q : Heap) (b : Addr) xs, q.IsList b xs → (∀ o, q.get? b = some o → o.cls ≠ .type "list") → False := fun q b xs l k => by
    obtain ⟨o, ho, hc, _⟩ := l; exact k o ho hc
  have nol : ∀ (q : Heap) f0 k1 k2 b, IsZip q (h.objs.size + 4) (h.objs.size + 2) (h.objs.size + 3) f0 → (∃ a b, IsPair q (h.objs.size + 3) a b) → q.IsListIter h.objs.size l1 k1 → q.IsListIter (h.objs.size + 1) l2 k2 →
      b ∈ [h.objs.size + 4, h.objs.size + 3, h.objs.size, h.objs.size + 1] → ∀ xs, ¬ q.IsList b xs := by
    intro q f0 k1 k2 b z1 p1 i1 i2 hb xs l
    simp only [List.mem_cons, List.not_mem_nil, or_false] at hb
    refine nl q b xs l fun o ho => ?_
    rcases hb with rfl | rfl | rfl | rfl
    · rw [show q.get? _ = _ from z1] at ho; cases ho; simp
    · obtain ⟨a, b, p1⟩ := p1
      rw [show q.get? _ = _ from p1] at ho; cases ho; simp
    · obtain ⟨o', ho', hc', _⟩ := i1
      rw [ho] at ho'; cases ho'; rw [hc']; simp
    · obtain ⟨o', ho', hc', _⟩ := i2
      rw [ho] at ho'; cases ho'; rw [hc']; simp
  refine ⟨_, _, _, _, _, WT, ⟨hz, hTI, ⟨_, _, hTO⟩, hit1, hit2, LK.of_stays hk _ _ hl1, LK.of_stays hk _ _ hl2⟩, hk, ?_, ?_, ?_, ?_, ?_, ?_⟩
  · intro b hb
    rw [hsz]
    have fresh : ∀ k, ¬ W (h.objs.size + k) := fun k q => absurd (hlt _ q) (Nat.not_lt.mpr (Nat.le_add_right _ k))
    have sz : (S r h tk).heap.objs.size = h.objs.size := rfl
    rw [sz]
    simp only [List.mem_cons, List.not_mem_nil, or_false] at hb
    rcases hb with rfl | rfl | rfl | rfl | rfl | rfl | rfl
    · exact ⟨fresh 4, Nat.add_lt_add_left (show 4 < 5 by decide) _⟩
    · exact ⟨fresh 2, Nat.add_lt_add_left (show 2 < 5 by decide) _⟩
    · exact ⟨fresh 3, Nat.add_lt_add_left (show 3 < 5 by decide) _⟩
    · exact ⟨fresh 0, Nat.add_lt_add_left (show 0 < 5 by decide) _⟩
    · exact ⟨fresh 1, Nat.add_lt_add_left (show 1 < 5 by decide) _⟩
    · exact ⟨hW1, Nat.lt_of_lt_of_le a1 (Nat.le_add_right _ _)⟩
    · exact ⟨hW2, Nat.lt_of_lt_of_le a2 (Nat.le_add_right _ _)⟩
  · intro b hb
    simp only [List.mem_cons, List.not_mem_nil, or_false] at hb
    refine get?_ge ?_
    rcases hb with rfl | rfl | rfl | rfl <;> simp
  · rintro i q ⟨z1, _, p1, i1, i2, _⟩ b hb
    exact nol q _ _ _ b z1 p1 i1 i2 hb
  · rintro i T q ⟨z1, _, p1, i1, i2, _⟩ b hb
    exact nol q _ _ _ b z1 p1 i1 i2 hb
  · rintro i q ⟨z1, t1, ⟨a, b', p1⟩, i1, i2, k1, k2⟩ b hb o ho
    simp only [List.mem_cons, List.not_mem_nil, or_false] at hb
    rcases hb with rfl | rfl | rfl | rfl | rfl | rfl | rfl
    · exact notDict_fields z1 o ho
    · rw [show q.get? _ = _ from t1] at ho; cases ho; intro es n q; cases q
    · rw [show q.get? _ = _ from p1] at ho; cases ho; intro es n q; cases q
    · obtain ⟨o', ho', _, hd⟩ := i1
      rw [ho] at ho'; cases ho'; intro es n q; rw [hd] at q; cases q
    · obtain ⟨o', ho', _, hd⟩ := i2
      rw [ho] at ho'; cases ho'; intro es n q; rw [hd] at q; cases q
    · exact notDict_list k1 o ho
    · exact notDict_list k2 o ho
  · rintro i vals ⟨x, y, hx, hy, rfl⟩
    exact ⟨x, y, rfl, by simpa using hx, by simpa using hy⟩

theorem pyIter_zip {z : Addr} {W : Addr → Prop} {g g₂ : Heap} {n : Nat} {P : Nat → Value → Value → Prop} {Q : Value → Shared → Prop} (It : ItersZ w A W g z g₂ n P) (hQ : Q (.ref z) (S r g₂ tk)) : wpAny (model PG w) A (pyIter (.ref z)) Q E (S r g₂ tk) := by
  obtain ⟨fp, wr, Pt, St, Mid, Wk, hst, _⟩ := It
  exact Wk.self 0 (S r g₂ tk) Q E hst hQ

theorem assign2 {x y : Str} {px py pt : Pos} {k : Nat} {T : Addr} {a b : Value} {m : Str → Option Value} {Q : Unit → Shared → Prop} (hh : A.handled = none) (hn : h.Ns env.locals m) (hT : h.IsTuple T #[a, b])
    (hQ : ∀ h', (∃ h₁ h₂ m₂, h.StaysIn h₁ ∧ Heap.SameBut env.locals h₁ h₂ ∧ h₂.Ns env.locals m₂ ∧ Heap.SameBut env.locals h₂ h') → h'.Ns env.locals (fun z => if z = y then some b else if z = x then some a else m z) → Q () (S r h' (tk + 1 + 1)))
    (hs : assignEach [.Name x px, .Name y py] env = [(false, assign (.Name x px) env), (false, assign (.Name y py) env)])
    (hx : env.kindOf x = some .local) (hy : env.kindOf y = some .local) (hp : (env.scope.kind == .class || (env.scope.kind == .module && env.locals != env.globals)) = false) :
    wpAny (model PG w) A (assign (.Tuple [.Name x px, .Name y py] k pt) env (.ref T)) Q E (S r h tk) := by
  refine wpAny_assign_Tuple (s := S r h tk) hh hT (by rw [hs]; rfl) (by rw [hs]; rfl) fun h₁ he => ?_
  have k₁ : h.StaysIn h₁ := fun b o e => he b o (Nat.ne_of_lt (Heap.lt_size e)) e
  rw [hs]
  have hn₁ := hn.keeps k₁
  show wpAny _ _ (assignInOrder [assign (.Name x px) env, assign (.Name y py) env] [a, b]) _ _ (S r h₁ tk)
  refine PyProof.Rows.assignInOrder_cons (wpAny_assign_Name (wpAny_storeName_local hx hn₁ (fun h₂ hn₂ hs₂ => ?_) hp))
  refine PyProof.Rows.assignInOrder_cons (wpAny_assign_Name (wpAny_storeName_local hy hn₂ (fun h₃ hn₃ hs₃ => ?_) hp))
  exact PyProof.Rows.assignInOrder_nil (hQ h₃ ⟨h₁, h₂, _, k₁, hs₂, hn₂, hs₃⟩ hn₃)

theorem For_zipX {hz : Heap} {tz : Nat} {x y : Str} {px py pt pos : Pos} {kt : Nat} {iter : Expr} {body : List Stmt} {Q : Flow → Shared → Prop} (base : Heap) (W : Addr → Prop) (J : Nat → Heap → (Str → Option Value) → Prop) (hh : A.handled = none)
    (hJ : ∀ i h h' m m', J i h m → LK h h' → PK h h' → (∀ z, z ≠ x → z ≠ y → m' z = m z) → J i h' m')
    (h : wpAny (model PG w) A (eval iter env) (fun xv s₁ => ∃ I n P m g₁ g₂ tk₂, xv = .ref I ∧ s₁ = S r g₂ tk₂ ∧ ItersZ w A W g₁ I g₂ n P ∧ W env.locals ∧ base.StaysIn g₁ ∧ base.get? env.locals = none ∧ g₁.Ns env.locals m ∧ J 0 g₁ m ∧
      (∀ i u v h₂ m₂ tk, i < n → P i u v → UpW W base g₁ h₂ → h₂.Ns env.locals m₂ → m₂ x = some u → m₂ y = some v → J i h₂ m₂ →
        wpAny (model PG w) A (execs body env) (fun fl s₃ => (fl = .next ∨ fl = .cont) ∧ ∃ h₃ tk₃ m₃, s₃ = S r h₃ tk₃ ∧ UpW W base h₂ h₃ ∧ h₃.Ns env.locals m₃ ∧ J (i + 1) h₃ m₃) NoE (S r h₂ tk)) ∧
      (∀ h' tk m', UpW W base g₁ h' → h'.Ns env.locals m' → J n h' m' → Q .next (S r h' tk))) E (S r hz tz))
    (hxy : x ≠ y) (hse : assignEach [.Name x px, .Name y py] env = [(false, assign (.Name x px) env), (false, assign (.Name y py) env)])
    (hl : env.kindOf x = some .local := by rfl) (hl2 : env.kindOf y = some .local := by rfl) (hp : (env.scope.kind == .class || (env.scope.kind == .module && env.locals != env.globals)) = false := by rfl)
    (hs : ∀ x, foldedSetIterable iter env x = pure x := by intro _; rfl) :
    wpAny (model PG w) A (exec (.For (.Tuple [.Name x px, .Name y py] kt pt) iter body [] pos) env) Q E (S r hz tz) := by
  refine wpAny_For (wpAny_mono h (fun xv s₁ h₁ => ?_) fun _ _ e => e) hs
  obtain ⟨I, n, P, m, g₁, g₂, tk₂, rfl, rfl, It, hWL, hbg, hbL, hn, h0, turn, done⟩ := h₁
  refine pyIter_zip It ?_
  obtain ⟨fp, wr, Pt, St, Mid, Wk, hst, hk, hfp, hwr, hnl, hnlM, hnd, hPt⟩ := It
  have hLf : env.locals ∉ fp := fun q => (hfp _ q).1 hWL
  have hLw : env.locals ∉ wr := fun q => hLf (Wk.sub _ q)
  have hbw : ∀ b ∈ wr, base.get? b = none := fun b hb => get?_none_of_stays hbg (hwr b hb)
  have lkw : ∀ (h h' : Heap), (∀ b ∈ wr, ∀ xs, ¬ h.IsList b xs) → (∀ b o, b ∉ wr → h.get? b = some o → h'.get? b = some o) → LK h h' := fun h h' nl k a xs x => by
    obtain ⟨o, ho, r⟩ := id x
    exact ⟨o, k a o (fun q => nl a q xs x) ho, r⟩
  have pkw : ∀ (h h' : Heap), (∀ b ∈ wr, ∀ xs, ¬ h.IsList b xs) → (∀ b o, b ∉ wr → h.get? b = some o → h'.get? b = some o) → PK h h' := fun h h' nl k a xs x => x.at fun o e => k a o (fun q => nl a q xs x.isList) e
  have kpw : ∀ h h', UpW W base g₁ h → (∀ b o, b ∉ wr → h.get? b = some o → h'.get? b = some o) → UpW W base g₁ h' := fun h h' k k' =>
    ⟨fun b o nb e => let ⟨sl, e1, f1⟩ := k.1 b o nb e; ⟨sl, k' b _ (fun q => by rw [hwr b q] at e; cases e) e1, f1⟩, fun b o e => k' b o (fun q => by rw [hbw b q] at e; cases e) (k.2 b o e)⟩
  refine codeAny_forLoop_any (fun k s' => ∃ h' tk m' i, s' = S r h' tk ∧ St i h' ∧ UpW W base g₁ h' ∧ h'.Ns env.locals m' ∧ J i h' m' ∧ i ≤ n ∧ k = n + 1 - i) ?_ (n + 1)
    ⟨g₂, tk₂, m, 0, rfl, hst, UpW.of_stays hk hbg, hn.keeps hk, hJ _ _ _ _ _ h0 (LK.of_stays hk) (PK.of_stays hk) fun _ _ _ => rfl, Nat.zero_le _, rfl⟩
  rintro k s' ⟨h', tk, m', i, rfl, hst', hkp, hns, hj, hi, rfl⟩
  by_cases hlt : i < n
  · refine Wk.item i _ _ _ hlt hst' fun T vals h₁ tk₁ hPv hTs hT hM hk₁ => ?_
    obtain ⟨u, v, rfl, hP⟩ := hPt i vals hPv
    refine Wk.go _ _ _ i T _ _ _ hM fun h₂ hst₂ hk₂ => ?_
    have hTw := Wk.apart i T h₁ hM
    have hT₂ : h₂.IsTuple T #[u, v] := hT.at fun o e => hk₂ T o hTw e
    have hns₁ : h₁.Ns env.locals m' := hns.at' fun o e => hk₁ _ o hLw e
    have hns₂ : h₂.Ns env.locals m' := hns₁.at' fun o e => hk₂ _ o hLw e
    have kp₂ := kpw _ _ (kpw _ _ hkp hk₁) hk₂
    have lk₂ : LK h' h₂ := (lkw _ _ (hnl _ _ hst') hk₁).trans (lkw _ _ (hnlM _ _ _ hM) hk₂)
    have pk₂ : PK h' h₂ := (pkw _ _ (hnl _ _ hst') hk₁).trans (pkw _ _ (hnlM _ _ _ hM) hk₂)
    refine assign2 (r := r) (h := h₂) hh hns₂ hT₂ (fun h₅ ⟨h₃, h₄, m₄, k₃, s₄, hn₄, s₅⟩ hn₅ => ?_) hse hl hl2 hp
    have hn₃ := hns₂.keeps k₃
    have hst₅ : St (i + 1) h₅ := Wk.frame _ _ _ hst₂ fun b hb o e => s₅.extBut b o (fun q => hLf (q ▸ hb)) (s₄.extBut b o (fun q => hLf (q ▸ hb)) (k₃ b o e))
    have lk₅ : LK h' h₅ := ((lk₂.trans (LK.of_stays k₃)).trans (LK.of_same (fun xs => not_list_of_ns hn₃) s₄)).trans (LK.of_same (fun xs => not_list_of_ns hn₄) s₅)
    have pk₅ : PK h' h₅ := ((pk₂.trans (PK.of_stays k₃)).trans (PK.of_same (fun xs => not_list_of_ns hn₃) s₄)).trans (PK.of_same (fun xs => not_list_of_ns hn₄) s₅)
    have kp₃ := kp₂.trans (UpW.of_stays k₃ kp₂.2)
    have kp₄ := kp₃.trans (UpW.of_same (W := W) hWL s₄ kp₃.2 hbL)
    have kp₅ := kp₄.trans (UpW.of_same (W := W) hWL s₅ kp₄.2 hbL)
    have j₅ : J i h₅ (fun z => if z = y then some v else if z = x then some u else m' z) := hJ _ _ _ _ _ hj lk₅ pk₅ fun z h1 h2 => by simp [h1, h2]
    refine wpAny_mono (noE (turn i u v h₅ _ _ hlt hP kp₅ hn₅ (by simp [hxy]) (by simp) j₅)) (fun fl s₃ h₃ => ?_) fun _ _ e => e
    obtain ⟨hf, h₆, tk₆, m₆, rfl, kp₆, hn₆, j₆⟩ := h₃
    have fin : ∃ mm, mm < n + 1 - i ∧ ∃ h' tk m' i, S r h₆ tk₆ = S r h' tk ∧ St i h' ∧ UpW W base g₁ h' ∧ h'.Ns env.locals m' ∧ J i h' m' ∧ i ≤ n ∧ mm = n + 1 - i :=
      ⟨n + 1 - (i + 1), by omega, h₆, tk₆, m₆, i + 1, rfl, Wk.frame _ _ _ hst₅ fun b hb o e => kp₆.get (hfp b hb).1 e (hnd _ _ hst₅ b hb o e), kp₅.trans kp₆, hn₆, j₆, hlt, rfl⟩
    rcases hf with rfl | rfl <;> exact fin
  · have hin : i = n := by omega
    subst hin
    refine Wk.done _ _ _ hst' fun h₁ tk₁ hk₁ => wpAny_execs_nil ?_
    exact done h₁ tk₁ m' (kpw _ _ hkp hk₁) (hns.at' fun o e => hk₁ _ o hLw e) (hJ _ _ _ _ _ hj (lkw _ _ (hnl _ _ hst') hk₁) (pkw _ _ (hnl _ _ hst') hk₁) fun _ _ _ => rfl)
end
end Mine

namespace Mine

theorem kids_same {d : Nat} {ks ks' : List Tree} (hk : ∀ k ∈ ks, k.ht ≤ d) (hk' : ∀ k ∈ ks', k.ht ≤ d) :
    (∀ t, t ∈ ks.map (fun k => rowF d k.num) ↔ t ∈ ks'.map fun k => rowF d k.num) ↔ nums ks = nums ks' := by
  have e : ∀ {ks : List Tree}, (∀ k ∈ ks, k.ht ≤ d) → ∀ p, p < bnd d → (rowF d p ∈ ks.map (fun k => rowF d k.num) ↔ (nums ks).testBit p = true) := fun {ks} hk p hp => by
    rw [nums_bit, List.mem_map]
    constructor
    · rintro ⟨k, hkk, e⟩
      have h1 := num_rowF d _ (num_bnd d k (hk k hkk))
      rw [e, num_rowF d p hp] at h1
      exact ⟨k, hkk, h1.symm⟩
    · rintro ⟨k, hkk, rfl⟩
      exact ⟨k, hkk, rfl⟩
  constructor
  · intro h
    refine nat_ext fun p => ?_
    constructor
    · intro hb
      obtain ⟨k, hkk, rfl⟩ := (nums_bit _ _).mp hb
      exact (e hk' _ (num_bnd d k (hk k hkk))).mp ((h _).mp (List.mem_map.mpr ⟨k, hkk, rfl⟩))
    · intro hb
      obtain ⟨k, hkk, rfl⟩ := (nums_bit _ _).mp hb
      exact (e hk _ (num_bnd d k (hk' k hkk))).mp ((h _).mpr (List.mem_map.mpr ⟨k, hkk, rfl⟩))
  · intro h t
    constructor
    · intro ht
      obtain ⟨k, hkk, rfl⟩ := List.mem_map.mp ht
      have hp := num_bnd d k (hk k hkk)
      exact (e hk' _ hp).mpr (h ▸ (e hk _ hp).mp ht)
    · intro ht
      obtain ⟨k, hkk, rfl⟩ := List.mem_map.mp ht
      have hp := num_bnd d k (hk' k hkk)
      exact (e hk _ hp).mpr (h ▸ (e hk' _ hp).mp ht)
def Tree.kids : Tree → List Tree
  | .node ks => ks
theorem bbSum : bootBuiltins (Str.ofString "sum") = some (.builtin "sum") := by decide +kernel
theorem law_walk (w : World) {A : Around} {base h₁ : Heap} {r : Shared} {tk₁ L fa : Nat} {l : Addr} {ns : List Int} {vs : List Value} {E : Value → Shared → Prop} {cd : Value}
    {name qual : Str} {params : Arguments} {body : List Stmt} {scope : Scope} {dV kV doc pm cdv ct oc : Value} {an od : Option Addr} {osl : Array (Option Value)}
    (ho : (KP w).lookup 84 = some ⟨oc, od, .func (fnOf name qual params body scope dV kV doc pm an cdv ct), osl⟩)
    (C : CxX w (A.deeper (envOf qual scope L fa cd)) base h₁) (hh : A.handled = none) (hd : A.depth ≤ 400) (hu : A.units ≤ 100) (F : FrX base base L h₁ (fun y => ([(Str.ofString "script", Value.ref l)] : List (Str × Value)).reverse.lookup y))
    (push : ∀ h' m', FrX base base L h' m' → CxX w (A.deeper (envOf qual scope L fa cd)) base h')
    (hl : base.IsList l vs.toArray) (hq : All2 IntV ns vs) (hsz : ns.length ≤ 63) :
    wpAny (model PG w) (A.deeper (envOf qual scope L fa cd)) (execs body (envOf qual scope L fa cd)) (fun fl s' => fl = .ret (.bool true) ∧ ∃ h' tk', s' = S r h' tk' ∧ base.StaysIn h') E (S r h₁ tk₁) := by
  have e := ho.symm.trans (rfl : (KP w).lookup 84 = some _)
  cases e
  refine noE ?_
  have hrl : recursionLimit = 1000 := rfl
  have hb : base.StaysIn base := stays_refl _
  -- one
  refine wpAny_execs_cons (wpAny_Assign_Name (call1 C.cx rfl rfl (slice_step (nmL F.ns rfl ?_))))
  rw [evalPart_some]
  refine cInt (wpAny_pure (cInt ⟨l, vs.toArray, some 0, none, some 2, h₁, _, rfl, rfl, F.up.lk0 _ _ hl, ?_, .int _ _, .none, .int _ _, by decide, fun D1 h₂ k₂ hD1 hl1 => ⟨(C.up (UpW.of_stays k₂ F.up.2)).cx.X, ?_⟩⟩))
  · rw [List.size_toArray, ← hq.length, sizeLine_eq]; omega
  have F₂ := F.stays k₂
  have C₂ := push _ _ F₂
  refine grown_spec w (vs := (slicePick vs.toArray (some 0) none (some 2)).toList) (by rw [Array.toArray_toList]; exact hl1) (pick_ints hq _ _ _) _ _ _ _ _ C₂.cx hh (by simp only [Around.deeper]; omega) (by simp only [Around.deeper]; omega) ?_
  rintro v1 h₃ tk₃ k₃ ⟨t1, hv1, hh1, hw1⟩
  have F₃ := F₂.stays k₃
  refine stS F₃.ns fun h₄ hn₄ hs₄ => ?_
  have F₄ := F₃.set hn₄ hs₄ hb
  have C₄ := push _ _ F₄
  have lk₄ := LK.of_same (fun xs => not_list_of_ns F₃.ns) hs₄
  have hv1₄ : TreeAt h₄ Any t1 v1 := hv1.any.lk lk₄
  -- two
  refine wpAny_execs_cons (wpAny_Assign_Name (call1 C₄.cx rfl rfl (slice_step (nmL F₄.ns rfl ?_))))
  rw [evalPart_some]
  refine cInt (wpAny_pure (cInt ⟨l, vs.toArray, some 1, none, some 2, h₄, _, rfl, rfl, F₄.up.lk0 _ _ hl, ?_, .int _ _, .none, .int _ _, by decide, fun D2 h₅ k₅ hD2 hl2 => ⟨(C₄.up (UpW.of_stays k₅ F₄.up.2)).cx.X, ?_⟩⟩))
  · rw [List.size_toArray, ← hq.length, sizeLine_eq]; omega
  have F₅ := F₄.stays k₅
  have C₅ := push _ _ F₅
  refine grown_spec w (vs := (slicePick vs.toArray (some 1) none (some 2)).toList) (by rw [Array.toArray_toList]; exact hl2) (pick_ints hq _ _ _) _ _ _ _ _ C₅.cx hh (by simp only [Around.deeper]; omega) (by simp only [Around.deeper]; omega) ?_
  rintro v2 h₆ tk₆ k₆ ⟨t2, hv2, hh2, hw2⟩
  have F₆ := F₅.stays k₆
  refine stS F₆.ns fun h₇ hn₇ hs₇ => ?_
  have F₇ := F₆.set hn₇ hs₇ hb
  have C₇ := push _ _ F₇
  have lk₇ := LK.of_same (fun xs => not_list_of_ns F₆.ns) hs₇
  have hv1₇ : TreeAt h₇ Any t1 v1 := ((hv1₄.lk (LK.of_stays k₅)).lk (LK.of_stays k₆)).lk lk₇
  have hv2₇ : TreeAt h₇ Any t2 v2 := hv2.any.lk lk₇
  -- four
  refine wpAny_execs_cons (wpAny_Assign_Name (List_ (spliced_more (nmL hn₇ rfl (spliced_more (nmL hn₇ rfl (spliced_more (call1 C₇.cx rfl rfl (nmL hn₇ rfl ⟨C₇.cx.X, ?_⟩)))))))))
  refine turned_spec w t1 h₇ v1 (by omega) hv1₇ _ _ _ _ _ C₇.cx hh (by simp only [Around.deeper]; omega) (by simp only [Around.deeper]; omega) ?_
  rintro v3 h₈ tk₈ k₈ hv3
  have F₈ := F₇.stays k₈
  obtain ⟨ks1⟩ := t1
  obtain ⟨ks2⟩ := t2
  have hv1₈ := hv1₇.lk (LK.of_stays k₈)
  have hv2₈ := hv2₇.lk (LK.of_stays k₈)
  obtain ⟨a1, vs1, rfl, _, hla1, hqa1⟩ := treeAt_iff.mp hv1₈
  obtain ⟨a2, vs2, rfl, _, hla2, hqa2⟩ := treeAt_iff.mp hv2₈
  rw [Tree.weight] at hw1 hw2
  rw [Tree.ht] at hh1 hh2
  have hlen1 : vs1.length ≤ 12 := by rw [← hqa1.length]; have := len_weights ks1; omega
  have hlen2 : vs2.length ≤ 12 := by rw [← hqa2.length]; have := len_weights ks2; omega
  refine spliced_more (wpAny_BinOp (nmL F₈.ns rfl (nmL F₈.ns rfl (addL hla1 hla2 (by rw [sizeLine_eq]; omega) fun D4 h₉ k₉ hD4 hl4 => wpAny_pure ?_))))
  have F₉ := F₈.stays k₉
  have lk₉ := LK.of_stays k₉
  refine newListS (fun l4 h₁₀ k₁₀ hl4n hl4' => stS (F₉.ns.keeps k₁₀) fun h₁₁ hn₁₁ hs₁₁ => ?_) (by rw [sizeLine_eq]; simp)
  have F₁₀ := F₉.stays k₁₀
  have F₁₁ := F₁₀.set hn₁₁ hs₁₁ hb
  have lk₁₁ := LK.of_same (fun xs => not_list_of_ns F₁₀.ns) hs₁₁
  have lkA : LK h₈ h₁₁ := (lk₉.trans (LK.of_stays k₁₀)).trans lk₁₁
  obtain ⟨roots, rvs, hrvs, hroots, hrb⟩ : ∃ (roots : List Tree) (rvs : List Value), h₁₁.IsList l4 rvs.toArray ∧ All2 (TreeAt h₁₁ Any) roots rvs ∧ roots.length = 4 ∧ ∀ t ∈ roots, t.ht ≤ 4 ∧ t.weight ≤ 30 := by
    refine ⟨[.node ks1, .node ks2, (Tree.node ks1).turn, .node (ks1 ++ ks2)], _, lk₁₁ _ _ hl4', .cons (hv1₈.lk lkA) (.cons (hv2₈.lk lkA) (.cons (hv3.any.lk lkA) (.cons ?_ .nil))), rfl, ?_⟩
    · exact treeAt_iff.mpr ⟨D4, vs1 ++ vs2, rfl, trivial, lk₁₁ _ _ (LK.of_stays k₁₀ _ _ hl4), (hqa1.append hqa2).imp fun _ _ z => z.lk lkA⟩
    · have ht1 := turn_ht_weight (.node ks1)
      intro t ht
      simp only [List.mem_cons, List.not_mem_nil, or_false] at ht
      rcases ht with rfl | rfl | rfl | rfl
      · rw [Tree.ht, Tree.weight]; omega
      · rw [Tree.ht, Tree.weight]; omega
      · rw [ht1.1, ht1.2, Tree.ht, Tree.weight]; omega
      · rw [Tree.ht, Tree.weight, hts_append, weights_append]; omega
  obtain ⟨hr4, hrb⟩ := hrb
  clear hv1 hv1₄ hv2 hv1₇ hv2₇ hv3 hv1₈ hv2₈ hqa1 hqa2
  -- numbers
  have C₁₁ := push _ _ F₁₁
  refine wpAny_execs_cons ?_
  have soft : Soft fun ok h' v y => ∃ t, TreeAt h₁₁ Any t v ∧ (t ∈ roots ∧ IntV (t.num : Int) y) := fun ok ok' h h' v y f q => q
  refine comp_assignX base (fun _ => true) (fun ok h' v y => ∃ t, TreeAt h₁₁ Any t v ∧ (t ∈ roots ∧ IntV (t.num : Int) y)) soft rfl (by decide) (by decide) rfl (by decide) rfl ?_
  refine nmL F₁₁.ns rfl ?_
  refine iters_listX (fun _ => False) hh hrvs (fun q => q) (fun q => q) fun it g₂ It => ?_
  refine ⟨_, _, h₁₁, g₂, _, _, _, rfl, It, by rw [← hroots.length, hr4, sizeLine_eq]; decide, F₁₁.up.2, F₁₁.base hb, F₁₁.ns, ?_, ?_, ?_⟩
  · intro Cc i v h₃ m₃ tk₃ hv k₃ hn₃ hx
    exact tests_nil ⟨rfl, h₃, tk₃, rfl, UpW.refl k₃.2⟩
  · intro Cc i v h₃ m₃ tk₃ hv _ k₃ hn₃ hx
    have C₃ := push _ _ (F₁₁.step k₃)
    obtain ⟨t, ht, htv⟩ := hroots.flip.get hv
    have htm := List.mem_of_getElem? ht
    refine call1 C₃.cx rfl rfl (nmL hn₃ hx ⟨C₃.cx.X, ?_⟩)
    refine number_spec w t h₃ v (hrb t htm).1 (htv.lk k₃.lk0) _ _ _ _ _ C₃.cx hh ?_ ?_ ?_
    · have := (hrb t htm).1; simp only [Around.deeper]; omega
    · have := (hrb t htm).1; simp only [Around.deeper]; omega
    · rintro v' h₄ tk₄ k₄ ⟨t', rfl⟩
      exact ⟨h₄, tk₄, rfl, UpW.of_stays k₄ k₃.2, t, htv, htm, t', rfl⟩
  intro ln h₁₂ tk₁₂ nvs vs' hln u₁₂ hn₁₂ hlnL hlen' hP hF
  rw [filter_all] at hF
  have e := list_eq_get hlen' hP
  subst e
  have hnums : All2 IntV (roots.map fun t => (t.num : Int)) nvs := by
    refine All2.map_left ?_
    exact (all2_pick (T := fun t y => t ∈ roots ∧ IntV (t.num : Int) y) hroots hF).imp fun _ _ z => z.2
  clear hF hP soft
  have F₁₂ := F₁₁.kp u₁₂ hn₁₂ fun b q => q ▸ F₁₁.free
  have C₁₂ := push _ _ F₁₂
  have lk₁₂ : LK h₁₁ h₁₂ := u₁₂.lk fun b q xs => q ▸ not_list_of_ns F₁₁.ns
  have hroots₁₂ : All2 (TreeAt h₁₂ Any) roots vs' := hroots.imp fun _ _ z => z.lk lk₁₂
  have hrvs₁₂ := lk₁₂ _ _ hrvs
  -- the loop over the four and their numbers
  refine wpAny_execs_cons (For_zipX base (fun b => b = L) (J := fun i hh m => m (Str.ofString "four") = some (.ref l4) ∧ m (Str.ofString "numbers") = some (.ref ln)) hh ?hJ ?loop (by decide) rfl)
  case hJ =>
    rintro i h h' m m' ⟨e1, e2⟩ _ _ hm
    exact ⟨(hm _ (by decide) (by decide)).trans e1, (hm _ (by decide) (by decide)).trans e2⟩
  refine Call_ (nmB C₁₂.cx rfl bbZip (by decide) (Pv.callWith_type1 (spliced_more (nmL hn₁₂ rfl (spliced_more (nmL hn₁₂ rfl (wpAny_pure ?_)))))))
  have hrlen : vs'.length = nvs.length := by rw [← hroots₁₂.length, ← hnums.length, List.length_map]
  refine iters_zip (fun b => b = L) hh hrvs₁₂ hlnL hrlen (fun q => not_list_of_ns F₁₂.ns (q ▸ hrvs₁₂)) (fun q => not_list_of_ns F₁₂.ns (q ▸ hlnL)) (fun b q => q ▸ F₁₂.ns.lt) fun z g₂ It => ?_
  refine ⟨z, _, _, _, h₁₂, g₂, _, rfl, rfl, It, rfl, F₁₂.up.2, F₁₂.base hb, F₁₂.ns, ⟨rfl, rfl⟩, ?_, ?_⟩
  · rintro i u v h₂ m₂ tk₂ hi ⟨hu', hv'⟩ up₂ hn₂ hmx hmy ⟨e4, en⟩
    have F₂ := F₁₂.kp up₂ hn₂ fun b q => q ▸ F₁₂.free
    have C₂ := push _ _ F₂
    have lk₂ : LK h₁₂ h₂ := up₂.lk fun b q xs => q ▸ not_list_of_ns F₁₂.ns
    obtain ⟨t, ht, htu⟩ := hroots₁₂.flip.get hu'
    have htm := List.mem_of_getElem? ht
    have htb := hrb t htm
    obtain ⟨nv, hnv, tv, rfl⟩ := hnums.flip.get hv'
    have env : nv = (t.num : Int) := by
      rw [List.getElem?_map, ht] at hnv
      exact (Option.some.inj hnv).symm
    subst env
    have htu₂ := htu.lk lk₂
    refine wpAny_execs_cons (For_walkX base (fun b => b = L) (J := fun i hh m => m (Str.ofString "four") = some (.ref l4) ∧ m (Str.ofString "numbers") = some (.ref ln) ∧ m (Str.ofString "root") = some u ∧ m (Str.ofString "number") = some (.int (t.num : Int) tv)) ?hJ2 ?loop2)
    case hJ2 =>
      rintro i h h' m m' ⟨e1, e2, e3, e4⟩ _ _ hm
      exact ⟨(hm _ (by decide)).trans e1, (hm _ (by decide)).trans e2, (hm _ (by decide)).trans e3, (hm _ (by decide)).trans e4⟩
    refine call1 C₂.cx rfl rfl (nmL hn₂ hmx ⟨C₂.cx.X, ?_⟩)
    refine nodes_spec w t h₂ u (by omega) htu₂ _ _ _ _ _ C₂.cx hh (by simp only [Around.deeper]; omega) (by simp only [Around.deeper]; omega) ?_
    rintro _ h₃ tk₃ k₃ ⟨ln3, nodes, rfl, hln3, hnodes⟩
    have F₃ := F₂.stays k₃
    refine iters_listX (fun b => b = L) hh hln3 (fun q => not_list_of_ns F₃.ns (q ▸ hln3)) (fun q => absurd F₃.ns.lt (by rw [← q]; exact Nat.lt_irrefl _)) fun it g₃ It₃ => ?_
    refine ⟨_, _, _, h₃, g₃, _, rfl, It₃, rfl, F₃.up.2, F₃.base hb, F₃.ns, ⟨e4, en, hmx, hmy⟩, ?_, ?_⟩
    · rintro j nd h₄ m₄ tk₄ hj hnd up₄ hn₄ hmn ⟨e4, en, hmx, hmy⟩
      have F₄ := F₃.kp up₄ hn₄ fun b q => q ▸ F₃.free
      have C₄ := push _ _ F₄
      have lk₄ : LK h₃ h₄ := up₄.lk fun b q xs => q ▸ not_list_of_ns F₃.ns
      obtain ⟨nt, hnt, hntv⟩ := hnodes.flip.get hnd
      have hntm := List.mem_of_getElem? hnt
      have hnth : nt.ht ≤ 4 := Nat.le_trans (subs_ht t nt hntm) htb.1
      have hntw : nt.weight ≤ 30 := Nat.le_trans (subs_weight t nt hntm) htb.2
      have hnt₄ := hntv.lk lk₄
      obtain ⟨kk⟩ := nt
      obtain ⟨an, kvs, rfl, _, hlk, hqk⟩ := treeAt_iff.mp hnt₄
      have hkl : kk.length ≤ 30 := by rw [Tree.weight] at hntw; have := len_weights kk; omega
      -- codes
      refine wpAny_execs_cons ?_
      have soft : Soft fun ok h' v y => ∃ t, TreeAt h₄ Any t v ∧ (t ∈ kk ∧ IntV (t.num : Int) y) := fun ok ok' h h' v y f q => q
      refine comp_assignX base (fun _ => true) (fun ok h' v y => ∃ t, TreeAt h₄ Any t v ∧ (t ∈ kk ∧ IntV (t.num : Int) y)) soft rfl (by decide) (by decide) rfl (by decide) rfl ?_
      refine nmL hn₄ hmn ?_
      refine iters_listX (fun _ => False) hh hlk (fun q => q) (fun q => q) fun it g₅ It₅ => ?_
      refine ⟨_, _, h₄, g₅, _, _, _, rfl, It₅, by rw [← hqk.length, sizeLine_eq]; omega, F₄.up.2, F₄.base hb, hn₄, ?_, ?_, ?_⟩
      · intro Cc i v h₃ m₃ tk₃ hv k₃ hn₃ hx
        exact tests_nil ⟨rfl, h₃, tk₃, rfl, UpW.refl k₃.2⟩
      · intro Cc i v h₆ m₆ tk₆ hv _ k₆ hn₆ hx
        have C₆ := push _ _ (F₄.step k₆)
        obtain ⟨k, hk, hkv⟩ := hqk.flip.get hv
        have hkm := List.mem_of_getElem? hk
        have hkh := ht_kid hkm
        refine call1 C₆.cx rfl rfl (nmL hn₆ hx ⟨C₆.cx.X, ?_⟩)
        refine number_spec w k h₆ v (by omega) (hkv.lk k₆.lk0) _ _ _ _ _ C₆.cx hh (by simp only [Around.deeper]; omega) (by simp only [Around.deeper]; omega) ?_
        rintro v' h₇ tk₇ k₇ ⟨t', rfl⟩
        exact ⟨h₇, tk₇, rfl, UpW.of_stays k₇ k₆.2, k, hkv, hkm, t', rfl⟩
      intro lc h₅ tk₅ cvs kvs' hlc up₅ hn₅ hlcL hlen' hP hF
      rw [filter_all] at hF
      have e := list_eq_get hlen' hP
      subst e
      have hcodes : All2 IntV (kk.map fun k => (k.num : Int)) cvs := by
        refine All2.map_left ?_
        exact (all2_pick (T := fun t y => t ∈ kk ∧ IntV (t.num : Int) y) hqk hF).imp fun _ _ z => z.2
      clear hF hP soft
      have F₅ := F₄.kp up₅ hn₅ fun b q => q ▸ F₄.free
      have C₅ := push _ _ F₅
      have lk₅ : LK h₄ h₅ := up₅.lk fun b q xs => q ▸ not_list_of_ns F₄.ns
      have hcl : (kk.map fun k => (k.num : Int)).length ≤ 30 := by rw [List.length_map]; exact hkl
      have hcl2 := dedA_len_le (kk.map fun k => (k.num : Int))
      -- kept
      refine wpAny_execs_cons (wpAny_Assign_Name (Call_ (nmB C₅.cx rfl bbList (by decide) (Pv.callWith_type1 (spliced_more (call1 C₅.cx rfl rfl (nmL hn₅ rfl ⟨C₅.cx.X, ?_⟩)))))))
      refine dedupI_spec w hlcL hcodes (by omega) _ _ _ _ _ C₅.cx hh (by simp only [Around.deeper]; omega) (by simp only [Around.deeper]; omega) ?_
      rintro _ h₆ tk₆ k₆ ⟨dd, rfl, hd84, hdn, hdd⟩
      have F₆ := F₅.stays k₆
      refine wpAny_pure (listD hh hdd hd84 (by omega) fun lk h₇ tk₇ kvals k₇ hlkn hlkL hkept => ?_)
      have F₇ := F₆.stays k₇
      refine stS F₇.ns fun h₈ hn₈ hs₈ => ?_
      have F₈ := F₇.set hn₈ hs₈ hb
      have C₈ := push _ _ F₈
      have lk₈' := LK.of_same (fun xs => not_list_of_ns F₇.ns) hs₈
      have lk₅₈ : LK h₅ h₈ := ((LK.of_stays k₆).trans (LK.of_stays k₇)).trans lk₈'
      have hlc₈ := lk₅₈ _ _ hlcL
      have hlk₈ := lk₈' _ _ hlkL
      -- first test
      refine wpAny_execs_cons (wpAny_If (wpAny_isTrue_Compare1 (nmL hn₈ rfl (call1 C₈.cx rfl rfl (nmL hn₈ rfl ⟨C₈.cx.X, ?_⟩)))))
      refine (dedup_spec w eI cvs h₈ lc hlc₈ (by rw [← hcodes.length]; omega) (eqs_ints hcodes)).spec _ _ _ _ _ C₈.cx hh (by simp only [Around.deeper]; omega) (by simp only [Around.deeper]; omega) ?_
      rintro _ h₉ tk₉ k₉ ⟨lD, rfl, hlD, hpD⟩
      have F₉ := F₈.stays k₉
      have C₉ := push _ _ F₉
      have hcl9 : cLine = 9900 := rfl
      have hded := all2_ded (R := fun n v => IntV n v) (e := eI) (fun a b y x ra rb => eI_same ra rb) hcodes
      refine ne_intsK (s := S r h₉ tk₉) (LK.of_stays k₉ _ _ hlk₈) (intsAre_all2 hkept) hpD.isList (intsAre_all2 hded) (by simp only [Around.deeper]; omega) (wpAny_truthy_bool ?_)
      rw [show (!decide (dedA (kk.map fun k => (k.num : Int)) = dedA (kk.map fun k => (k.num : Int)))) = false by simp]
      simp only [Bool.false_eq_true, if_false]
      refine wpAny_execs_nil ?_
      -- second test
      have hn₉ := hn₈.keeps k₉
      have hkept₉ := LK.of_stays k₉ _ _ hlk₈
      have e4₉ := e4
      have lk₄₉ : LK h₄ h₉ := (lk₅.trans lk₅₈).trans (LK.of_stays k₉)
      refine wpAny_execs_cons (wpAny_If (wpAny_isTrue_Compare1 (Call_ (nmB C₉.cx rfl bbSum (by decide) (callWith_method1 (first := []) (spliced_more ?_))))))
      have soft : Soft fun ok h' v y => ∃ n : Int, IntV n v ∧ IntV ((2 : Int) ^ n.toNat) y := fun ok ok' h h' v y f q => q
      refine compX base (fun _ => true) (fun ok h' v y => ∃ n : Int, IntV n v ∧ IntV ((2 : Int) ^ n.toNat) y) soft (by decide) (by decide) rfl (by decide) rfl ?_
      refine nmL hn₉ rfl ?_
      refine iters_listX (fun _ => False) hh hkept₉ (fun q => q) (fun q => q) fun it g₁₀ It₁₀ => ?_
      refine ⟨_, _, h₉, g₁₀, _, _, rfl, It₁₀, by rw [← hkept.length, sizeLine_eq]; omega, F₉.up.2, ?_, ?_, ?_⟩
      · intro Cc i v h₃ m₃ tk₃ hv k₃ hn₃ hx
        exact tests_nil ⟨rfl, h₃, tk₃, rfl, UpW.refl k₃.2⟩
      · intro Cc i v h₁₀ m₁₀ tk₁₀ hv _ k₁₀ hn₁₀ hx
        obtain ⟨n, hn, tn, rfl⟩ := hkept.flip.get hv
        obtain ⟨k, hk, rfl⟩ := List.mem_map.mp ((mem_dedA _ _).mp (List.mem_of_getElem? hn))
        have hk16 : k.num < 16 := num_kid hnth hk
        refine wpAny_BinOp (cInt (nmL hn₁₀ hx (powS (by omega) (by omega) fun t' tk' => ?_)))
        exact ⟨h₁₀, _, rfl, UpW.refl k₁₀.2, _, ⟨tn, rfl⟩, t', rfl⟩
      intro lp h₁₀ tk₁₀ pvs kv' hlp up₁₀ hlpL hlen' hP hF
      rw [filter_all] at hF
      have e := list_eq_get hlen' hP
      subst e
      have hpows : All2 IntV ((dedA (kk.map fun k => (k.num : Int))).map fun n => (2 : Int) ^ n.toNat) pvs := by
        refine All2.map_left ?_
        refine (hkept.comp hF).imp fun n y ⟨v, hv, n', hv', hy⟩ => ?_
        obtain ⟨t, rfl⟩ := hv
        obtain ⟨t', e⟩ := hv'
        injection e with e1 _
        rw [e1]; exact hy
      clear hF hP soft
      have F₁₀ := F₉.step up₁₀
      refine wpAny_pure (sumS hh hlpL hpows fun h₁₁ tk₁₁ ts k₁₁ => ?_)
      have F₁₁ := F₁₀.stays k₁₁
      have C₁₁ := push _ _ F₁₁
      have hn₁₁ := (up₁₀.ns hn₉ fun q => q).keeps k₁₁
      refine call1 C₁₁.cx rfl rfl (nmL hn₁₁ hmn ⟨C₁₁.cx.X, ?_⟩)
      refine number_spec w (.node kk) h₁₁ (.ref an) hnth ((hnt₄.lk lk₄₉).lk (up₁₀.lk0.trans (LK.of_stays k₁₁))) _ _ _ _ _ C₁₁.cx hh (by simp only [Around.deeper]; omega) (by simp only [Around.deeper]; omega) ?_
      rintro _ h₁₂ tk₁₂ k₁₂ ⟨tn, rfl⟩
      have F₁₂ := F₁₁.stays k₁₂
      refine PyProof.Rows.ne_int (wpAny_truthy_bool ?_)
      rw [sum_codes, Tree.num, bne_self_eq_false]
      simp only [Bool.false_eq_true, if_false]
      refine wpAny_execs_nil (wpAny_execs_nil ⟨.inl rfl, h₁₂, _, _, rfl, ?_, F₁₂.ns, e4, en, hmx, hmy⟩)
      have up₈ : UpW (fun b => b = L) base h₅ h₈ := ((UpW.of_stays k₆ up₅.2).trans (UpW.of_stays k₇ F₆.up.2)).trans (UpW.of_same rfl hs₈ F₇.up.2 (F₇.base hb))
      exact (((((up₅.trans up₈).trans (UpW.of_stays k₉ F₈.up.2)).trans up₁₀.up).trans (UpW.of_stays k₁₁ F₁₀.up.2)).trans (UpW.of_stays k₁₂ F₁₁.up.2))
    · rintro h₄ tk₄ m₄ up₄ hn₄ ⟨e4, en, hmx, hmy⟩
      have F₄ := F₃.kp up₄ hn₄ fun b q => q ▸ F₃.free
      have C₄ := push _ _ F₄
      have lk₄ : LK h₃ h₄ := up₄.lk fun b q xs => q ▸ not_list_of_ns F₃.ns
      have htu₄ : TreeAt h₄ Any t u := (htu₂.lk (LK.of_stays k₃)).lk lk₄
      refine wpAny_execs_cons (wpAny_If (wpAny_isTrue_Compare1 (call1 C₄.cx rfl rfl (nmL hn₄ hmx ⟨C₄.cx.X, ?_⟩))))
      refine plain_spec w 4 (Nat.le_refl _) t base h₄ u htb.1 (by omega) htu₄ _ _ _ _ _ C₄ hh (by simp only [Around.deeper]; omega) (by simp only [Around.deeper]; omega) ?_
      rintro pv h₅ tk₅ k₅ hpv
      have F₅ := F₄.step k₅
      have C₅ := push _ _ F₅
      refine call1 C₅.cx rfl rfl (nmL F₅.ns hmy ⟨C₅.cx.X, ?_⟩)
      refine row_spec w 4 (Nat.le_refl _) t.num (num_bnd 4 t htb.1) h₅ tv _ _ _ _ _ C₅.cx hh (by simp only [Around.deeper]; omega) (by simp only [Around.deeper]; omega) ?_
      rintro rv h₆ tk₆ k₆ hrv
      have F₆ := F₅.stays k₆
      have hht := ht_rowF 4 t.num
      have hcl9 : cLine = 9900 := rfl
      refine ne_same (hpv.any.lk (LK.of_stays k₆)) hrv.any (by simp only [Around.deeper]; omega) (wpAny_truthy_bool ?_)
      simp only [Bool.false_eq_true, if_false]
      refine wpAny_execs_nil (wpAny_execs_nil ⟨.inl rfl, h₆, _, _, rfl, ?_, F₆.ns, e4, en⟩)
      exact (((UpW.of_stays k₃ up₂.2).trans up₄).trans k₅.up).trans (UpW.of_stays k₆ F₅.up.2)
  · rintro h₁₃ tk₁₃ m₁₃ up₁₃ hn₁₃ ⟨e4, en⟩
    have F₁₃ := F₁₂.kp up₁₃ hn₁₃ fun b q => q ▸ F₁₂.free
    have C₁₃ := push _ _ F₁₃
    have lk₁₃ : LK h₁₂ h₁₃ := up₁₃.lk fun b q xs => q ▸ not_list_of_ns F₁₂.ns
    have hroots₁₃ : All2 (TreeAt h₁₃ Any) roots vs' := hroots₁₂.imp fun _ _ z => z.lk lk₁₃
    have hrvs₁₃ := lk₁₃ _ _ hrvs₁₂
    have hlnL₁₃ := lk₁₃ _ _ hlnL
    -- tops
    refine wpAny_execs_cons ?_
    have soft : Soft fun ok h' v y => ∃ t, TreeAt h₁₃ Any t v ∧ (t ∈ roots ∧ TreeAt h' ok (.node (t.kids.map fun k => rowF 3 k.num)) y) := fun ok ok' h h' v y f q => let ⟨t, a, b, c⟩ := q; ⟨t, a, b, c.mono f⟩
    refine comp_assignX base (fun _ => true) (fun ok h' v y => ∃ t, TreeAt h₁₃ Any t v ∧ (t ∈ roots ∧ TreeAt h' ok (.node (t.kids.map fun k => rowF 3 k.num)) y)) soft rfl (by decide) (by decide) rfl (by decide) rfl ?_
    refine nmL hn₁₃ e4 ?_
    refine iters_listX (fun _ => False) hh hrvs₁₃ (fun q => q) (fun q => q) fun it g₁₄ It₁₄ => ?_
    refine ⟨_, _, h₁₃, g₁₄, _, _, _, rfl, It₁₄, by rw [← hroots.length, hr4, sizeLine_eq]; decide, F₁₃.up.2, F₁₃.base hb, F₁₃.ns, ?_, ?_, ?_⟩
    · intro Cc i v h₃ m₃ tk₃ hv k₃ hn₃ hx
      exact tests_nil ⟨rfl, h₃, tk₃, rfl, UpW.refl k₃.2⟩
    · intro Cc i v h₃ m₃ tk₃ hv _ k₃ hn₃ hx
      have F₃ := F₁₃.step k₃
      obtain ⟨t, ht, htv⟩ := hroots₁₃.flip.get hv
      have htm := List.mem_of_getElem? ht
      have htb := hrb t htm
      have htv₃ := htv.lk k₃.lk0
      obtain ⟨kk⟩ := t
      obtain ⟨an, kvs, rfl, _, hlk, hqk⟩ := treeAt_iff.mp htv₃
      have hkl : kk.length ≤ 30 := by have := htb.2; rw [Tree.weight] at this; have := len_weights kk; omega
      have soft2 : Soft fun ok h' v y => ∃ k, TreeAt h₃ Any k v ∧ (k ∈ kk ∧ TreeAt h' ok (rowF 3 k.num) y) := fun ok ok' h h' v y f q => let ⟨t, a, b, c⟩ := q; ⟨t, a, b, c.mono f⟩
      refine compX base (fun _ => true) (fun ok h' v y => ∃ k, TreeAt h₃ Any k v ∧ (k ∈ kk ∧ TreeAt h' ok (rowF 3 k.num) y)) soft2 (by decide) (by decide) rfl (by decide) rfl ?_
      refine nmL hn₃ hx ?_
      refine iters_listX (fun _ => False) hh hlk (fun q => q) (fun q => q) fun it g₅ It₅ => ?_
      refine ⟨_, _, h₃, g₅, _, _, rfl, It₅, by rw [← hqk.length, sizeLine_eq]; omega, F₃.up.2, ?_, ?_, ?_⟩
      · intro Cc i v h₃ m₃ tk₃ hv k₃ hn₃ hx
        exact tests_nil ⟨rfl, h₃, tk₃, rfl, UpW.refl k₃.2⟩
      · intro Cc2 i v h₆ m₆ tk₆ hv _ k₆ hn₆ hx
        have C₆ := push _ _ (F₃.step k₆)
        obtain ⟨k, hk, hkv⟩ := hqk.flip.get hv
        have hkm := List.mem_of_getElem? hk
        have hkh := ht_kid hkm
        have hkw := weight_mem hkm
        have hkw2 := htb.2
        rw [Tree.weight] at hkw2
        refine call1 C₆.cx rfl rfl (nmL hn₆ hx ⟨C₆.cx.X, ?_⟩)
        refine plain_spec w 3 (by decide) k base h₆ v (by have := htb.1; omega) (by omega) (hkv.lk k₆.lk0) _ _ _ _ _ C₆ hh (by simp only [Around.deeper]; omega) (by simp only [Around.deeper]; omega) ?_
        rintro v' h₇ tk₇ k₇ hv'
        exact ⟨h₇, tk₇, rfl, k₇, k, hkv, hkm, hv'⟩
      intro lD h₇ tk₇ ys kvs' hlD k₇ hlDL hlen' hP hF
      rw [filter_all] at hF
      have e := list_eq_get hlen' hP
      subst e
      refine ⟨h₇, tk₇, rfl, k₇, _, htv, htm, treeAt_iff.mpr ⟨lD, ys, rfl, hlD, hlDL, All2.map_left ?_⟩⟩
      exact (all2_pick (T := fun k y => k ∈ kk ∧ TreeAt h₇ (FreeBut h₃ lD) (rowF 3 k.num) y) hqk hF).imp fun _ _ z => z.2.mono fun a xs o l => ⟨o.1, l⟩
    intro lt h₁₄ tk₁₄ tvs vs'' hlt up₁₄ hn₁₄ hltL hlen' hP hF
    rw [filter_all] at hF
    have e := list_eq_get hlen' hP
    subst e
    have F₁₄ := F₁₃.kp up₁₄ hn₁₄ fun b q => q ▸ F₁₃.free
    have C₁₄ := push _ _ F₁₄
    have lk₁₄ : LK h₁₃ h₁₄ := up₁₄.lk fun b q xs => q ▸ not_list_of_ns F₁₃.ns
    have htops : All2 (fun t y => TreeAt h₁₄ Any (.node (t.kids.map fun k => rowF 3 k.num)) y) roots tvs :=
      (all2_pick (T := fun t y => t ∈ roots ∧ TreeAt h₁₄ (FreeBut h₁₃ lt) (.node (t.kids.map fun k => rowF 3 k.num)) y) hroots₁₃ hF).imp fun _ _ z => z.2.any
    clear hF hP soft
    have hlnL₁₄ := lk₁₄ _ _ hlnL₁₃
    have hcl9 : cLine = 9900 := rfl
    -- the last loops
    refine wpAny_execs_cons (For_walkX base (fun b => b = L) (J := fun i hh m => m (Str.ofString "tops") = some (.ref lt) ∧ m (Str.ofString "numbers") = some (.ref ln)) ?hJ3 ?loop3)
    case hJ3 =>
      rintro i h h' m m' ⟨e1, e2⟩ _ _ hm
      exact ⟨(hm _ (by decide)).trans e1, (hm _ (by decide)).trans e2⟩
    refine Call_ (nmB C₁₄.cx rfl bbRange (by decide) (Pv.callWith_type1 (spliced_more (cInt (wpAny_pure ?_)))))
    refine rangeS (n := 4) (h := h₁₄) fun h₁₅ lr t5 u5 v5 k₁₅ hr => ?_
    have F₁₅ := F₁₄.stays k₁₅
    refine iters_rangeX (fun b => b = L) hh hr (by decide) (fun q => absurd F₁₅.ns.lt (by rw [← q]; exact Nat.lt_irrefl _)) fun it g₁₅ It₁₅ => ?_
    refine ⟨_, _, _, h₁₅, g₁₅, _, rfl, It₁₅, rfl, F₁₅.up.2, F₁₅.base hb, F₁₅.ns, ⟨rfl, en⟩, ?_, ?_⟩
    · rintro i _ h₁₆ m₁₆ tk₁₆ hi4 ⟨ti, rfl⟩ up₁₆ hn₁₆ hmi ⟨et, en⟩
      have F₁₆ := F₁₅.kp up₁₆ hn₁₆ fun b q => q ▸ F₁₅.free
      have C₁₆ := push _ _ F₁₆
      refine wpAny_execs_cons (For_walkX base (fun b => b = L) (J := fun j hh m => m (Str.ofString "tops") = some (.ref lt) ∧ m (Str.ofString "numbers") = some (.ref ln) ∧ m (Str.ofString "i") = some (.int (i : Nat) ti)) ?hJ4 ?loop4)
      case hJ4 =>
        rintro i h h' m m' ⟨e1, e2, e3⟩ _ _ hm
        exact ⟨(hm _ (by decide)).trans e1, (hm _ (by decide)).trans e2, (hm _ (by decide)).trans e3⟩
      refine Call_ (nmB C₁₆.cx rfl bbRange (by decide) (Pv.callWith_type1 (spliced_more (cInt (wpAny_pure ?_)))))
      refine rangeS (n := 4) (h := h₁₆) fun h₁₇ lr2 t6 u6 v6 k₁₇ hr2 => ?_
      have F₁₇ := F₁₆.stays k₁₇
      refine iters_rangeX (fun b => b = L) hh hr2 (by decide) (fun q => absurd F₁₇.ns.lt (by rw [← q]; exact Nat.lt_irrefl _)) fun it g₁₇ It₁₇ => ?_
      refine ⟨_, _, _, h₁₇, g₁₇, _, rfl, It₁₇, rfl, F₁₇.up.2, F₁₇.base hb, F₁₇.ns, ⟨et, en, hmi⟩, ?_, ?_⟩
      · rintro j _ h₁₈ m₁₈ tk₁₈ hj4 ⟨tj, rfl⟩ up₁₈ hn₁₈ hmj ⟨et, en, hmi⟩
        have F₁₈ := F₁₇.kp up₁₈ hn₁₈ fun b q => q ▸ F₁₇.free
        have C₁₈ := push _ _ F₁₈
        have lk₁₈ : LK h₁₄ h₁₈ := (((LK.of_stays k₁₅).trans (up₁₆.lk fun b q xs => q ▸ not_list_of_ns F₁₅.ns)).trans (LK.of_stays k₁₇)).trans (up₁₈.lk fun b q xs => q ▸ not_list_of_ns F₁₇.ns)
        have hlt₁₈ := lk₁₈ _ _ hltL
        have hln₁₈ := lk₁₈ _ _ hlnL₁₄
        have pick : ∀ a : Nat, a < 4 → ∃ t ya na, roots[a]? = some t ∧ tvs[a]? = some ya ∧ TreeAt h₁₈ Any (.node (t.kids.map fun k => rowF 3 k.num)) ya ∧ nvs[a]? = some na ∧ IntV (t.num : Int) na ∧ t ∈ roots := fun a ha => by
          have h1 : a < roots.length := by omega
          have h2 := List.getElem?_eq_getElem h1
          obtain ⟨ya, hya, hyt⟩ := htops.get h2
          obtain ⟨na, hna, hni⟩ := hnums.get (i := a) (a := ((roots[a]).num : Int)) (by rw [List.getElem?_map, h2]; rfl)
          exact ⟨_, ya, na, h2, hya, hyt.lk lk₁₈, hna, hni, List.mem_of_getElem? h2⟩
        obtain ⟨t1, y1, n1, hr1, hy1, hyt1, hn1, hni1, hm1⟩ := pick i hi4
        obtain ⟨t2, y2, n2, hr2', hy2, hyt2, hn2, hni2, hm2⟩ := pick j hj4
        obtain ⟨b1, xs1, rfl, _, hx1, hxq1⟩ := treeAt_iff.mp hyt1
        obtain ⟨b2, xs2, rfl, _, hx2, hxq2⟩ := treeAt_iff.mp hyt2
        obtain ⟨tn1, rfl⟩ := hni1
        obtain ⟨tn2, rfl⟩ := hni2
        have small : ∀ t ∈ roots, (t.kids.map fun k => rowF 3 k.num).length ≤ 1000 ∧ (∀ k ∈ t.kids, k.ht ≤ 3) ∧ t.num = nums t.kids := fun t ht => by
          have hb := hrb t ht
          obtain ⟨ks⟩ := t
          have h1 := hb.1
          have h2 := hb.2
          rw [Tree.ht] at h1
          rw [Tree.weight] at h2
          have h3 := len_weights ks
          refine ⟨by rw [List.length_map]; show ks.length ≤ 1000; omega, ht_le_of_hts h1, rfl⟩
        have low : ∀ (ks : List Tree), ∀ t ∈ ks.map (fun k => rowF 3 k.num), t.ht ≤ 10 := fun ks t ht => by
          obtain ⟨k, _, rfl⟩ := List.mem_map.mp ht
          have := ht_rowF 3 k.num
          omega
        obtain ⟨sm1, kh1, nm1⟩ := small t1 hm1
        obtain ⟨sm2, kh2, nm2⟩ := small t2 hm2
        refine wpAny_execs_cons (wpAny_If (wpAny_isTrue_Compare1 (call2 C₁₈.cx rfl rfl
          (itemS hn₁₈ et (nmL hn₁₈ hmi ⟨i, _, _, _, rfl, rfl, hlt₁₈, .inl ⟨by omega, by omega, by rw [Int.toNat_natCast]; exact hy1⟩,
            itemS hn₁₈ et (nmL hn₁₈ hmj ⟨j, _, _, _, rfl, rfl, hlt₁₈, .inl ⟨by omega, by omega, by rw [Int.toNat_natCast]; exact hy2⟩, C₁₈.cx.X, ?_⟩) (fun _ _ => by with_unfolding_all rfl) (fun _ => by with_unfolding_all rfl)⟩)
            (fun _ _ => by with_unfolding_all rfl) (fun _ => by with_unfolding_all rfl)))))
        refine compare_spec w hx1 hx2 hxq1 hxq2 sm1 sm2 (low _) (low _) _ _ _ _ _ C₁₈ hh (by simp only [Around.deeper]; omega) (by simp only [Around.deeper]; omega) ?_
        rintro _ h₁₉ tk₁₉ k₁₉ ⟨b, rfl, hbb⟩
        have F₁₉ := F₁₈.step k₁₉
        have hln₁₉ := k₁₉.lk0 _ _ hln₁₈
        refine wpAny_Compare1 (itemS F₁₉.ns en (nmL F₁₉.ns hmi ⟨i, _, _, _, rfl, rfl, hln₁₉, .inl ⟨by omega, by omega, by rw [Int.toNat_natCast]; exact hn1⟩,
            itemS F₁₉.ns en (nmL F₁₉.ns hmj ⟨j, _, _, _, rfl, rfl, hln₁₉, .inl ⟨by omega, by omega, by rw [Int.toNat_natCast]; exact hn2⟩, ?_⟩) (fun _ _ => by with_unfolding_all rfl) (fun _ => by with_unfolding_all rfl)⟩)
            (fun _ _ => by with_unfolding_all rfl) (fun _ => by with_unfolding_all rfl))
        refine PyProof.Rows.eq_int (wpAny_isNot_plain rfl (wpAny_truthy_bool ?_))
        have hbe : b = ((t1.num : Int) == (t2.num : Int)) := by
          rw [Bool.eq_iff_iff, hbb, kids_same kh1 kh2, ← nm1, ← nm2, beq_iff_eq]
          omega
        rw [← hbe, beq_self_eq_true]
        simp only [Bool.not_true, Bool.false_eq_true, if_false]
        exact wpAny_execs_nil (wpAny_execs_nil ⟨.inl rfl, h₁₉, _, _, rfl, k₁₉.up, F₁₉.ns, et, en, hmi⟩)
      · rintro h₁₈ tk₁₈ m₁₈ up₁₈ hn₁₈ ⟨et, en, hmi⟩
        exact wpAny_execs_nil ⟨.inl rfl, h₁₈, _, _, rfl, (UpW.of_stays k₁₇ F₁₆.up.2).trans up₁₈, hn₁₈, et, en⟩
    · rintro h₁₆ tk₁₆ m₁₆ up₁₆ hn₁₆ ⟨et, en⟩
      exact wpAny_execs_cons (wpAny_Return_some (wpAny_Constant_bool ⟨rfl, h₁₆, tk₁₆, rfl, up₁₆.2⟩))
end Mine

namespace Mine
theorem law_end (w : World) {base h₁ : Heap} {r : Shared} {tk₁ L fa : Nat} {l : Addr} {ns : List Int} {vs : List Value} {E : Value → Shared → Prop} {cd : Value} {Q : Flow → Shared → Prop}
    {name qual : Str} {params : Arguments} {body : List Stmt} {scope : Scope} {dV kV doc pm cdv ct oc : Value} {an od : Option Addr} {osl : Array (Option Value)}
    {p : Program} {loose : List Str} {mean : ExcName → Option Value} {mg mb : Str → Option Value}
    (ho : (KP w).lookup 84 = some ⟨oc, od, .func (fnOf name qual params body scope dV kV doc pm an cdv ct), osl⟩)
    (X : (KP w).In base) (T : Top p loose mean mg mb base) (F : Fr base L h₁ (fun y => ([(Str.ofString "script", Value.ref l)] : List (Str × Value)).reverse.lookup y))
    (hl : base.IsList l vs.toArray) (hi : IntsAre vs ns) (hsz : ns.length ≤ 63) (hQ : ∀ h' tk', base.StaysIn h' → Q (.ret (.bool true)) (S r h' tk')) (hk : scope.kind = .function := by rfl) :
    wpAny (model PG w) (callerA.deeper (envOf qual scope L fa cd)) (execs body (envOf qual scope L fa cd)) Q E (S r h₁ tk₁) := by
  have C0 : CxX w callerA base base := ⟨X, ⟨_, _, _, _, topRead_of T⟩, stays_refl _, [], rfl, fun e he => by cases he⟩
  have F0 : FrX base base L h₁ _ := FrX.of_fr F (stays_refl _)
  refine wpAny_mono (law_walk w (E := E) ho (C0.push F0 hk) rfl (by decide) (by decide) F0 (fun h' m' F' => C0.push F' hk) hl (all2_intsAre hi) hsz) (fun fl s' e => ?_) fun _ _ e => e
  obtain ⟨rfl, h', tk', rfl, k⟩ := e
  exact hQ h' tk' k
set_option maxHeartbeats 8000000 in
theorem whole : PySem.Challenge.rw_sn0124_01.Holds := hd (by
  k_go0
  (all_goals try k_fold)
  refine law_end _ (by rfl) (by assumption) (by assumption) (by assumption) (by assumption) (by assumption) (by omega) (fun h' tk' k => ?_)
  exact ⟨.inl ⟨_, _, [], rfl, fun _ => rfl, .bool true, by first | wrow_post | decide +kernel | kernel_rfl, fun _ => ⟨.nil, fun _ h => by cases h⟩⟩, k, rfl, by assumption⟩)
end Mine


theorem PySem.Challenge.cw_sn0124_01_holds : PySem.Challenge.rw_sn0124_01.Holds :=
  Mine.whole
