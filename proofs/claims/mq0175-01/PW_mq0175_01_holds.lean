import PyProof.Rows.All
import Wide.All
import OpenK.AllK
import Wide.FinOn
import PySem.Challenge.RW_mq0175_01
set_option Elab.async false
section
open PySem PySem.W PySem.Calls PyProof.Rows
namespace Mine
set_option maxRecDepth 100000 in
set_option maxHeartbeats 8000000 in
open_top hd for PySem.Challenge.rw_mq0175_01

abbrev PG : Program := PySem.Challenge.pw_mq0175_01
noncomputable abbrev KK (w : World) : Frag := hd.heap_39 w.params

/-- what every heap of the run holds -/
structure Bas (w : World) (mg mb : Str → Option Value) (h : Heap) : Prop where
  X : (KK w).In h
  g : h.Ns mainGlobals mg
  b : h.Ns builtinsNs mb
  lim : h.NoLimit
  bi : ∀ x : Str, x ≠ "__name__" → mb x = bootBuiltins x

theorem Bas.keeps {w : World} {mg mb : Str → Option Value} {h h' : Heap} (B : Bas w mg mb h) (hk : ∀ b o, h.get? b = some o → h'.get? b = some o) : Bas w mg mb h' :=
  ⟨B.X.keeps hk, B.g.keeps hk, B.b.keeps hk, B.lim.keeps hk, B.bi⟩

/-- frozen heap g, locals at L, own objects -/
structure St (g : Heap) (L : Addr) (m : Str → Option Value) (own : List (Addr × Obj)) (h : Heap) : Prop where
  ns : h.Ns L m
  keep : ∀ b o, g.get? b = some o → h.get? b = some o
  off : g.get? L = none
  obj : ∀ p ∈ own, h.get? p.1 = some p.2 ∧ g.get? p.1 = none ∧ p.1 ≠ L
  apart : (own.map (·.1)).Nodup

section
variable {g : Heap} {L : Addr} {m m' : Str → Option Value} {own : List (Addr × Obj)} {h h' : Heap}

theorem St.ofFr (F : Fr g L h m) : St g L m [] h :=
  ⟨F.ns, F.keep, (by
    cases q : g.get? L with
    | none => rfl
    | some o => exact absurd (Nat.lt_of_lt_of_le (Heap.lt_size q) F.above) (Nat.lt_irrefl _)), (fun _ hp => nomatch hp), List.nodup_nil⟩

theorem St.keeps (S : St g L m own h) (hk : ∀ b o, h.get? b = some o → h'.get? b = some o) : St g L m own h' :=
  ⟨S.ns.keeps hk, fun b o e => hk _ _ (S.keep b o e), S.off, fun p hp => ⟨hk _ _ (S.obj p hp).1, (S.obj p hp).2⟩, S.apart⟩

theorem St.ne (S : St g L m own h) {b : Addr} {o : Obj} (e : g.get? b = some o) : b ≠ L := fun z => by
  subst z; rw [S.off] at e; cases e

theorem St.set (S : St g L m own h) (hn : h'.Ns L m') (hs : Heap.SameBut L h h') : St g L m' own h' :=
  ⟨hn, fun b o e => (hs.2 b (S.ne e)).trans (S.keep b o e), S.off, fun p hp => ⟨(hs.2 p.1 (S.obj p hp).2.2).trans (S.obj p hp).1, (S.obj p hp).2⟩, S.apart⟩

theorem St.at (S : St g L m own h) (i : Nat) {a : Addr} {o : Obj} (hi : own[i]? = some (a, o)) : h.get? a = some o := (S.obj _ (List.mem_of_getElem? hi)).1

theorem St.push (S : St g L m own h) (o : Obj) (hf : o.isFreed = false := by rfl) : St g L m ((h.objs.size, o) :: own) (h.push o) := by
  refine ⟨S.ns.push o, fun b o' e => Heap.get?_push_of_some _ (S.keep b o' e), S.off, fun p hp => ?_, ?_⟩
  · rcases List.mem_cons.mp hp with rfl | hp
    · refine ⟨Heap.get?_push_size _ hf, ?_, fun z => ?_⟩
      · cases q : g.get? h.objs.size with
        | none => rfl
        | some o' => exact absurd (Heap.lt_size (S.keep _ _ q)) (Nat.lt_irrefl _)
      · have := S.ns.lt
        have z' : h.objs.size = L := z
        exact absurd this (by rw [z']; exact Nat.lt_irrefl _)
    · exact ⟨Heap.get?_push_of_some _ (S.obj p hp).1, (S.obj p hp).2⟩
  · rw [List.map_cons]
    refine List.nodup_cons.mpr ⟨fun hm => ?_, S.apart⟩
    obtain ⟨p, hp, e⟩ := List.mem_map.mp hm
    have := Heap.lt_size (S.obj p hp).1
    have e' : p.1 = h.objs.size := e
    exact absurd this (by rw [e']; exact Nat.lt_irrefl _)

theorem St.upd (S : St g L m own h) (i : Nat) {a : Addr} {o o' : Obj} (hi : own[i]? = some (a, o)) (hs : Heap.ExtBut a h h') (ho : h'.get? a = some o') : St g L m (own.set i (a, o')) h' := by
  have hm := List.mem_of_getElem? hi
  have za := S.obj _ hm
  obtain ⟨hl, hg⟩ := List.getElem?_eq_some_iff.mp hi
  have mapeq : (own.set i (a, o')).map (·.1) = own.map (·.1) := by
    rw [List.map_set]
    apply List.ext_getElem?
    intro j
    rw [List.getElem?_set]
    split
    · rename_i e; subst e
      simp [hg, hl]
    · rfl
  obtain ⟨on, es, ep, hon, r⟩ := S.ns
  refine ⟨⟨on, es, ep, hs _ _ (Ne.symm za.2.2) hon, r⟩, fun b ob e => hs b ob (fun z => ?_) (S.keep b ob e), S.off, fun p hp => ?_, by rw [mapeq]; exact S.apart⟩
  · subst z; rw [za.2.1] at e; cases e
  · rcases List.mem_or_eq_of_mem_set hp with hp' | rfl
    · by_cases q : p.1 = a
      · -- the same address: p is the new one
        have key : ∀ (l : List (Addr × Obj)) (i : Nat), (l.map (·.1)).Nodup → ∀ q₁ q₂, l[i]? = some q₁ → q₂ ∈ l.set i (a, o') → q₂.1 = a → q₁.1 = a → q₂ = (a, o') := by
          intro l
          induction l with
          | nil => intro i _ q₁ q₂ h1; simp at h1
          | cons x l ih =>
            intro i hn q₁ q₂ h1 h2 e2 e1
            rw [List.map_cons, List.nodup_cons] at hn
            cases i with
            | zero =>
              have h1' : x = q₁ := by simpa using h1
              subst h1'
              have h2' : q₂ ∈ (a, o') :: l := h2
              rcases List.mem_cons.mp h2' with h | h
              · exact h
              · exact absurd (by rw [e1, ← e2]; exact List.mem_map_of_mem h) hn.1
            | succ j =>
              have h1' : l[j]? = some q₁ := by simpa using h1
              have h2' : q₂ ∈ x :: l.set j (a, o') := h2
              rcases List.mem_cons.mp h2' with h | h
              · subst h
                exact absurd (by rw [e2, ← e1]; exact List.mem_map_of_mem (List.mem_of_getElem? h1')) hn.1
              · exact ih j hn.2 q₁ q₂ h1' h e2 e1
        have := key own i S.apart (a, o) p hi hp q rfl
        subst this
        exact ⟨ho, za.2⟩
      · exact ⟨hs _ _ q (S.obj p hp').1, (S.obj p hp').2⟩
    · exact ⟨ho, za.2⟩
end
end Mine
end
section
open PySem PySem.W PySem.Calls PyProof.Rows
set_option maxRecDepth 10000
namespace Mine

def Le (g h : Heap) : Prop := ∀ b o, g.get? b = some o → h.get? b = some o
theorem Le.refl (g : Heap) : Le g g := fun _ _ e => e
theorem Le.trans {a b c : Heap} (x : Le a b) (y : Le b c) : Le a c := fun _ _ e => y _ _ (x _ _ e)

section
variable {g : Heap} {L : Addr} {m m' : Str → Option Value} {own rest : List (Addr × Obj)} {h h' : Heap}
theorem St.le (S : St g L m own h) : Le g h := S.keep

theorem St.drop (S : St g L m (own ++ rest) h) : St g L m own h :=
  ⟨S.ns, S.keep, S.off, fun p hp => S.obj p (List.mem_append_left _ hp), by
    have := S.apart
    rw [List.map_append] at this
    exact (List.nodup_append.mp this).1⟩
theorem St.dropL (S : St g L m (own ++ rest) h) : St g L m rest h :=
  ⟨S.ns, S.keep, S.off, fun p hp => S.obj p (List.mem_append_right _ hp), by
    have := S.apart
    rw [List.map_append] at this
    exact (List.nodup_append.mp this).2.1⟩

/-- all that is not locals nor in rest becomes frozen -/
def frz (h : Heap) (L : Addr) (rest : List (Addr × Obj)) : Heap := hideAll h (L :: rest.map (·.1))
theorem St.frz_le (S : St g L m rest h) : Le g (frz h L rest) := fun b o e => by
  refine hideAll_get _ (S.keep b o e) fun hm => ?_
  rcases List.mem_cons.mp hm with z | z
  · exact S.ne e z
  · obtain ⟨p, hp, q⟩ := List.mem_map.mp z
    have y := (S.obj p hp).2.1
    have q' : p.1 = b := q
    rw [q', e] at y; cases y
theorem St.frz (S : St g L m rest h) : St (frz h L rest) L m rest h :=
  ⟨S.ns, fun _ _ e => of_hideAll _ e, hideAll_none _ (.head _), fun p hp => ⟨(S.obj p hp).1, hideAll_none _ (.tail _ (List.mem_map_of_mem hp)), (S.obj p hp).2.2⟩, S.apart⟩
theorem St.frz_at (S : St g L m (own ++ rest) h) {p : Addr × Obj} (hp : p ∈ own) : (Mine.frz h L rest).get? p.1 = some p.2 := by
  refine hideAll_get _ (S.obj p (List.mem_append_left _ hp)).1 fun hm => ?_
  rcases List.mem_cons.mp hm with z | z
  · exact (S.obj p (List.mem_append_left _ hp)).2.2 z
  · have := S.apart
    rw [List.map_append] at this
    obtain ⟨_, _, ap⟩ := List.nodup_append.mp this
    exact ap p.1 (List.mem_map_of_mem hp) p.1 z rfl
end

/-- an iterator that a for walks: its objects at the i-th turn (par), what a turn puts (put) -/
structure Iter (w : World) (A : Around) (env : Env) (target : Expr) (it : Value) (g₀ : Heap) (n : Nat) (par : Nat → List (Addr × Obj) → Prop)
    (put : Nat → (Str → Option Value) → List (Addr × Obj) → (Str → Option Value) → List (Addr × Obj) → Prop) : Prop where
  item : ∀ {i : Nat} {g : Heap} {m : Str → Option Value} {own p : List (Addr × Obj)} {h : Heap} {gens : Array GenState} {d : Drawn} {tk : Nat} {os : OsState} {E : Value → Shared → Prop} {X Body : Shared → Prop},
    i < n → Le g₀ g → par i p → St g env.locals m (own ++ p) h →
    (∀ p' m' own' h' tk', par (i + 1) p' → put i m own m' own' → St g env.locals m' (own' ++ p') h' → Body ⟨h', gens, d, tk', os⟩) →
    wpAny (model PG w) A (pyNext it) (fun r s₁ => match r with
      | none => X s₁
      | some v => wpAny (model PG w) A (letOwnedTupleGo target it v) (fun _ s₁' => wpAny (model PG w) A (assign target env v) (fun _ s₂ => Body s₂) E s₁') E s₁) E ⟨h, gens, d, tk, os⟩
  stop : ∀ {g : Heap} {m : Str → Option Value} {own p : List (Addr × Obj)} {h : Heap} {gens : Array GenState} {d : Drawn} {tk : Nat} {os : OsState} {E : Value → Shared → Prop} {X : Shared → Prop} {Y : Value → Shared → Prop},
    Le g₀ g → par n p → St g env.locals m (own ++ p) h → (∀ h' tk', St g env.locals m own h' → X ⟨h', gens, d, tk', os⟩) →
    wpAny (model PG w) A (pyNext it) (fun r s₁ => match r with | none => X s₁ | some v => Y v s₁) E ⟨h, gens, d, tk, os⟩

theorem forIter {w : World} {A : Around} {env : Env} {target : Expr} {it : Value} {g₀ : Heap} {n : Nat} {par : Nat → List (Addr × Obj) → Prop}
    {put : Nat → (Str → Option Value) → List (Addr × Obj) → (Str → Option Value) → List (Addr × Obj) → Prop} (I : Iter w A env target it g₀ n par put)
    {body : List Stmt} {R : Result → Shared → Prop} {d : Drawn} {os : OsState}
    (J : Nat → Heap → (Str → Option Value) → List (Addr × Obj) → Array GenState → Prop)
    {g : Heap} {m : Str → Option Value} {own p : List (Addr × Obj)} {h : Heap} {gens : Array GenState} {tk : Nat}
    (hg : Le g₀ g) (hp : par 0 p) (S : St g env.locals m (own ++ p) h) (hj : J 0 g m own gens)
    (step : ∀ (E : Value → Shared → Prop) i g m own m' own' p h tk gens, i < n → Le g₀ g → J i g m own gens → put i m own m' own' → St g env.locals m' (own' ++ p) h →
      wpAny (model PG w) A (execs body env) (fun f s₂ => match f with
        | .next | .cont => ∃ g' m'' own'' h' tk' gens', s₂ = ⟨h', gens', d, tk', os⟩ ∧ Le g g' ∧ St g' env.locals m'' (own'' ++ p) h' ∧ J (i + 1) g' m'' own'' gens'
        | .brk => R (.ok .next) s₂
        | .ret v => R (.ok (.ret v)) s₂) E ⟨h, gens, d, tk, os⟩)
    (done : ∀ g m own h tk gens, Le g₀ g → J n g m own gens → St g env.locals m own h → R (.ok .next) ⟨h, gens, d, tk, os⟩) :
    codeAny (model PG w) A (.forLoop target it body [] env) R ⟨h, gens, d, tk, os⟩ := by
  refine codeAny_forLoop_any
    (fun k s' => ∃ i g m own p h gens tk, k = n + 1 - i ∧ i ≤ n ∧ s' = ⟨h, gens, d, tk, os⟩ ∧ Le g₀ g ∧ par i p ∧ St g env.locals m (own ++ p) h ∧ J i g m own gens)
    ?_ (n + 1) ⟨0, g, m, own, p, h, gens, tk, rfl, Nat.zero_le _, rfl, hg, hp, S, hj⟩
  rintro k s' ⟨i, g, m, own, p, h, gens, tk, rfl, hi, rfl, hg, hp, S, hj⟩
  by_cases hlt : i < n
  · refine I.item hlt hg hp S fun p' m' own' h' tk' hp' hput S' => ?_
    refine wpAny_mono (step _ i g m own m' own' p' h' tk' gens hlt hg hj hput S') (fun f s₃ q => ?_) fun _ _ x => x
    cases f with
    | next =>
      obtain ⟨g', m'', own'', h₂, tk₂, gens₂, rfl, hle, S₂, hj₂⟩ := q
      exact ⟨n + 1 - (i + 1), by omega, i + 1, g', m'', own'', p', h₂, gens₂, tk₂, rfl, hlt, rfl, hg.trans hle, hp', S₂, hj₂⟩
    | cont =>
      obtain ⟨g', m'', own'', h₂, tk₂, gens₂, rfl, hle, S₂, hj₂⟩ := q
      exact ⟨n + 1 - (i + 1), by omega, i + 1, g', m'', own'', p', h₂, gens₂, tk₂, rfl, hlt, rfl, hg.trans hle, hp', S₂, hj₂⟩
    | brk => exact q
    | ret v => exact q
  · obtain rfl : i = n := by omega
    exact I.stop hg hp S fun h' tk' S' => wpAny_execs_nil (done g m own h' tk' gens hg hj S')

/-- the objects of an enumerate over a list -/
def enumPar (e it l : Addr) (i : Nat) (p : List (Addr × Obj)) : Prop :=
  ∃ old oi, p = [(e, { cls := .type "enumerate", dict := none, data := .fields #[.none, .bool false, .ref it, rawInt i, .none, old], slots := #[] }), (it, oi)] ∧
    oi.cls = .type "list_iterator" ∧ oi.data = .fields #[.ref l, .int i 0]
def enumPut (items : Array Value) (xi xv : Str) (i : Nat) (m : Str → Option Value) (own : List (Addr × Obj)) (m' : Str → Option Value) (own' : List (Addr × Obj)) : Prop :=
  own' = own ∧ ∃ v tok, items[i]? = some v ∧ m' = fun y => if y = xv then some v else if y = xi then some (.int i tok) else m y

theorem iter_enum {w : World} {A : Around} {env : Env} {xi xv : Str} {pi pv pt : Pos} {x1 : Nat} {e it l : Addr} {g₀ : Heap} {items : Array Value}
    (hh : A.handled = none) (hl : g₀.IsList l items) (hxi : env.kindOf xi = some .local) (hxv : env.kindOf xv = some .local)
    (hp : (env.scope.kind == .class || (env.scope.kind == .module && env.locals != env.globals)) = false) :
    Iter w A env (.Tuple [.Name xi pi, .Name xv pv] x1 pt) (.ref e) g₀ items.size (enumPar e it l) (enumPut items xi xv) := by
  constructor
  · rintro i g m own p h gens d tk os E X Body hi hg ⟨old, oi, rfl, hc, hd⟩ S hB
    have he : IsEnum h e it ((i : Nat) : Int) old := (S.obj (e, _) (List.mem_append_right _ (.head _))).1
    have hoi := (S.obj (it, oi) (List.mem_append_right _ (.tail _ (.head _)))).1
    have hit : h.IsListIter it l i := ⟨oi, hoi, hc, hd⟩
    have hlh : h.IsList l items := let ⟨o, ho, r⟩ := hl; ⟨o, S.keep _ _ (hg _ _ ho), r⟩
    have hei : e ≠ it := by
      have := S.apart
      rw [List.map_append] at this
      have := (List.nodup_append.mp this).2.1
      simp at this
      exact this
    obtain ⟨v, hv⟩ : ∃ v, items[i]? = some v := ⟨items[i], by simp [hi]⟩
    have heL : e ≠ env.locals := (S.obj (e, _) (List.mem_append_right _ (.head _))).2.2
    have hiL : it ≠ env.locals := (S.obj (it, oi) (List.mem_append_right _ (.tail _ (.head _)))).2.2
    refine wpAny_pyNext_enum_item (s := ⟨h, gens, d, tk, os⟩) he hit hlh hv hei fun h₁ heo hit₁ ht₁ hz₁ hk₁ => ?_
    refine wpAny_letOwnedTupleGo_enum heo fun h₂ he₂ hs₂ => ?_
    replace hs₂ : Heap.SameBut e h₁ h₂ := hs₂
    have ht₂ : h₂.IsTuple h.objs.size #[.int i tk, v] := ⟨_, (hs₂.2 _ (Nat.ne_of_gt (Heap.lt_size he))).trans ht₁, rfl, _, rfl⟩
    have hz₂ : h₂.objs.size = h.objs.size + 1 := hs₂.1.trans hz₁
    refine wpAny_assign_Tuple hh ht₂ rfl rfl fun h₃ hx₃ => ?_
    replace hx₃ : Heap.ExtBut h₂.objs.size h₂ h₃ := hx₃
    have old₃ : ∀ b o, b < h.objs.size → h₂.get? b = some o → h₃.get? b = some o := fun b o hb x => hx₃ b o (by rw [hz₂]; exact Nat.ne_of_lt (Nat.lt_succ_of_lt hb)) x
    -- the state behind next: e and it changed, else kept
    have up : ∀ b o, b ≠ e → b ≠ it → h.get? b = some o → h₃.get? b = some o := fun b o h1 h2 x =>
      old₃ b o (Heap.lt_size x) (hs₂.extBut b o h1 (hk₁ b o h1 h2 x))
    obtain ⟨oi', hoi', hc', hd'⟩ := hit₁
    have hoi₃ : h₃.get? it = some oi' := old₃ it oi' (Heap.lt_size hoi) (hs₂.extBut it oi' (Ne.symm hei) hoi')
    have he₃ := old₃ e _ (Heap.lt_size he) he₂
    have S₃ : St g env.locals m (own ++ [(e, { cls := .type "enumerate", dict := none, data := .fields #[.none, .bool false, .ref it, rawInt ((i : Int) + 1), .none, v], slots := #[] }), (it, oi')]) h₃ := by
      obtain ⟨on, es, ep, hon, r⟩ := S.ns
      refine ⟨⟨on, es, ep, up _ _ (Ne.symm heL) (Ne.symm hiL) hon, r⟩, fun b o x => up b o ?_ ?_ (S.keep b o x), S.off, fun q hq => ?_, ?_⟩
      · rintro rfl
        have := (S.obj (b, _) (List.mem_append_right _ (.head _))).2.1
        rw [this] at x; cases x
      · rintro rfl
        have := (S.obj (b, oi) (List.mem_append_right _ (.tail _ (.head _)))).2.1
        rw [this] at x; cases x
      · rcases List.mem_append.mp hq with hq | hq
        · have y := S.obj q (List.mem_append_left _ hq)
          have ap := S.apart
          rw [List.map_append] at ap
          have ap := (List.nodup_append.mp ap).2.2 q.1 (List.mem_map_of_mem hq)
          exact ⟨up _ _ (ap e (.head _)) (ap it (.tail _ (.head _))) y.1, y.2⟩
        · rcases List.mem_cons.mp hq with rfl | hq
          · exact ⟨he₃, (S.obj (e, _) (List.mem_append_right _ (.head _))).2⟩
          · rcases List.mem_singleton.mp hq with rfl
            exact ⟨hoi₃, (S.obj (it, oi) (List.mem_append_right _ (.tail _ (.head _)))).2⟩
      · have ap := S.apart
        rw [List.map_append] at ap ⊢
        exact ap
    show wpAny _ A (do holding [v] (assign (.Name xi pi) env (.int i tk)); do holding [] (assign (.Name xv pv) env v); pure ()) _ _ _
    refine wpAny_bind (wpAny_holding (wpAny_assign_Name (wpAny_storeName_local hxi S₃.ns (fun h₄ hn₄ hs₄ => ?_) hp)))
    have S₄ := S₃.set hn₄ hs₄
    refine wpAny_bind (wpAny_holding (wpAny_assign_Name (wpAny_storeName_local hxv hn₄ (fun h₅ hn₅ hs₅ => wpAny_pure ?_) hp)))
    have S₅ := S₄.set hn₅ hs₅
    exact hB _ _ own h₅ _ ⟨v, oi', by rw [show ((i + 1 : Nat) : Int) = (i : Int) + 1 by push_cast; rfl], hc', hd'⟩ ⟨rfl, v, tk, hv, rfl⟩ S₅
  · rintro g m own p h gens d tk os E X Y hg ⟨old, oi, rfl, hc, hd⟩ S hX
    have he : IsEnum h e it ((items.size : Nat) : Int) old := (S.obj (e, _) (List.mem_append_right _ (.head _))).1
    have hoi := (S.obj (it, oi) (List.mem_append_right _ (.tail _ (.head _)))).1
    have hit : h.IsListIter it l items.size := ⟨oi, hoi, hc, hd⟩
    have hlh : h.IsList l items := let ⟨o, ho, r⟩ := hl; ⟨o, S.keep _ _ (hg _ _ ho), r⟩
    refine wpAny_pyNext_enum_end (s := ⟨h, gens, d, tk, os⟩) hh he hit hlh (by simp) fun h₁ he₁ => hX h₁ tk ?_
    replace he₁ : Heap.ExtBut it h h₁ := he₁
    obtain ⟨on, es, ep, hon, r⟩ := S.ns
    have hiL : it ≠ env.locals := (S.obj (it, oi) (List.mem_append_right _ (.tail _ (.head _)))).2.2
    refine ⟨⟨on, es, ep, he₁ _ _ (Ne.symm hiL) hon, r⟩, fun b o x => he₁ b o ?_ (S.keep b o x), S.off, fun q hq => ?_, ?_⟩
    · rintro rfl
      have := (S.obj (b, oi) (List.mem_append_right _ (.tail _ (.head _)))).2.1
      rw [this] at x; cases x
    · have y := S.obj q (List.mem_append_left _ hq)
      have ap := S.apart
      rw [List.map_append] at ap
      have ap := (List.nodup_append.mp ap).2.2 q.1 (List.mem_map_of_mem hq)
      exact ⟨he₁ _ _ (ap it (.tail _ (.head _))) y.1, y.2⟩
    · exact S.drop.apart
end Mine
end
section
open PySem PySem.W PySem.Calls PyProof.Rows
set_option maxRecDepth 10000
namespace Mine

/-- room enough around -/
structure Fine (A : Around) (n : Nat) : Prop where
  handled : A.handled = none
  depth : A.depth + n < recursionLimit
  units : A.units + 8 * n < cLine

theorem Fine.deeper {A : Around} {n : Nat} (F : Fine A (n + 1)) (env : Env) : Fine (A.deeper env) n :=
  ⟨F.handled, by have := F.depth; show A.depth + 1 + n < _; omega, by have := F.units; show A.units + 3 + 8 * n < _; omega⟩
theorem Fine.room {A : Around} {n : Nat} (F : Fine A n) : A.depth < recursionLimit := by have := F.depth; omega
theorem Fine.less {A : Around} {n : Nat} (F : Fine A (n + 1)) : Fine A n := ⟨F.handled, by have := F.depth; omega, by have := F.units; omega⟩
theorem Fine.in1 {A : Around} {n : Nat} (F : Fine A (n + 1)) : Fine A.in1 n := ⟨F.handled, by have := F.depth; show A.depth + n < _; omega, by have := F.units; show A.units + 1 + 8 * n < _; omega⟩

def dB (i : Nat) : List Stmt := match PySem.Challenge.pw_mq0175_01.main.body[i]? with | some (.FunctionDef _ _ b _ _ _ _ _ _ _) => b | _ => []
def dS (i : Nat) : Scope := match PySem.Challenge.pw_mq0175_01.main.body[i]? with | some (.FunctionDef _ _ _ _ _ _ s _ _ _) => s | _ => { kind := .function, names := [], isGenerator := false, isCoroutine := false }
def dP (i : Nat) : Arguments := match PySem.Challenge.pw_mq0175_01.main.body[i]? with | some (.FunctionDef _ p _ _ _ _ _ _ _ _) => p | _ => ⟨[], [], none, [], [], none, []⟩
def dN (i : Nat) : Str := match PySem.Challenge.pw_mq0175_01.main.body[i]? with | some (.FunctionDef n _ _ _ _ _ _ _ _ _) => n | _ => Str.empty
def fdI (i : Nat) (pm cd : Value) : FuncData := { name := dN i, qualname := dN i, params := dP i, body := .stmts (dB i), scope := dS i, globals := mainGlobals, closure := [], defaults := .none, kwdefaults := .none, pyModule := pm, code := cd }

abbrev envAt (fd : FuncData) (L f : Addr) : Env :=
  { scope := fd.scope, locals := L, globals := fd.globals, cells := fd.closure, qual := fd.qualname ++ ".<locals>.", func := some f, code := fd.code, frame := some L, builtins := fd.builtins }

theorem enter {w : World} {mg mb : Str → Option Value} {A : Around} {R : Result → Shared → Prop} {s : Shared} {f : Addr} {args : List Value} {binds : List (Str × Value)} {oc : Value} {od : Option Addr} {osl : Array (Option Value)}
    {fd : FuncData} {body : List Stmt} (B : Bas w mg mb s.heap) (hA : A.depth < recursionLimit)
    (ho : (KK w).lookup f = some ⟨oc, od, .func fd, osl⟩) (hcd : codeIn (KK w) fd.code fd.qualname = true) (hbody : fd.body = .stmts body) (hbind : bindArgs fd ⟨args, []⟩ = pure binds)
    (h : ∀ h₁ E, St s.heap s.heap.objs.size (fun x => binds.reverse.lookup x) [] h₁ → Bas w mg mb h₁ →
      wpAny (model PG w) (A.deeper (envAt fd s.heap.objs.size f)) (execs body (envAt fd s.heap.objs.size f)) (fun fl s' => R (.ok (.ret (match fl with | .ret v => v | _ => .none))) s') E
        ⟨h₁, s.gens, s.drawn, s.toks + binds.length, s.os⟩)
    (hloc : ∀ x ∈ binds, fd.scope.names.lookup x.1 = some .local) (hco : fd.scope.isCoroutine = false) (hgen : fd.scope.isGenerator = false) (hk : fd.scope.kind = .function) (hcell : ∀ x ∈ fd.scope.names, x.2 ≠ .cell) :
    codeAny (model PG w) A (.call (.ref f) ⟨args, []⟩) R s := by
  refine codeAny_call_function hA (B.X _ _ ho) rfl hco hgen hbody (codeRec_of B.X hcd) ?_
  rw [hbind]
  refine wpAny_pure (wpAny_newFunctionEnv hcell hloc (fun h₁ hns hsb => ⟨B.lim.fresh _ hsb, ?_⟩) hk)
  have keep : ∀ b o, s.heap.get? b = some o → h₁.get? b = some o := fun b o e => hsb.extBut b o (Nat.ne_of_lt (Heap.lt_size e)) (Heap.get?_push_of_some _ e)
  refine codeAny_func (h h₁ _ ⟨hns, keep, ?_, (fun _ hp => nomatch hp), List.nodup_nil⟩ (B.keeps keep))
  cases q : s.heap.get? s.heap.objs.size with
  | none => rfl
  | some o => exact absurd (Heap.lt_size q) (Nat.lt_irrefl _)

section
variable {w : World} {mg mb : Str → Option Value} {M : Model} {A : Around} {E : Value → Shared → Prop} {s : Shared} {env : Env} {g : Heap} {m : Str → Option Value} {own : List (Addr × Obj)}

theorem nm {x : Str} {pos : Pos} {v : Value} {Q : Value → Shared → Prop} (S : St g env.locals m own s.heap) (hv : m x = some v) (h : Q v s)
    (hk : env.scope.kind = .function := by rfl) (hl : env.kindOf x = some .local := by rfl) (hd : (x == ("__debug__" : Str)) = false := by decide) :
    wpAny M A (eval (.Name x pos) env) Q E s := wpAny_Name (wpAny_loadName_local hk hl S.ns hv h) hd
theorem ln {x : Str} {v : Value} {Q : Value → Shared → Prop} (S : St g env.locals m own s.heap) (hv : m x = some v) (h : Q v s)
    (hk : env.scope.kind = .function := by rfl) (hl : env.kindOf x = some .local := by rfl) :
    wpAny M A (loadName env x) Q E s := wpAny_loadName_local hk hl S.ns hv h
theorem sn {x : Str} {v : Value} {Q : Unit → Shared → Prop} (S : St g env.locals m own s.heap)
    (h : ∀ h', St g env.locals (fun y => if y = x then some v else m y) own h' → Q () ⟨h', s.gens, s.drawn, s.toks + 1, s.os⟩)
    (hl : env.kindOf x = some .local := by rfl) (hp : (env.scope.kind == .class || (env.scope.kind == .module && env.locals != env.globals)) = false := by rfl) :
    wpAny M A (storeName env x v) Q E s := wpAny_storeName_local hl S.ns (fun h' hn hs => h h' (S.set hn hs)) hp

theorem gn {x : Str} {pos : Pos} {v : Value} {Q : Value → Shared → Prop} (B : Bas w mg mb g) (S : St g env.locals m own s.heap) (e : nsIn (KK w) mainGlobals x = some (some v)) (h : Q v s)
    (hg : env.globals = mainGlobals := by rfl) (hk : env.scope.kind = .function := by rfl) (hx : env.kindOf x = some .globalImplicit := by rfl) (hd : (x == ("__debug__" : Str)) = false := by decide) :
    wpAny M A (eval (.Name x pos) env) Q E s := Name_function_global hk hx (loadGlobal_global (by rw [hg]; exact (B.keeps S.keep).g) (mg_of B.X B.g e) h) hd
theorem bn {x : Str} {pos : Pos} {v : Value} {Q : Value → Shared → Prop} (B : Bas w mg mb g) (S : St g env.locals m own s.heap) (e : nsIn (KK w) mainGlobals x = some none) (hv : bootBuiltins x = some v) (h : Q v s)
    (hg : env.globals = mainGlobals := by rfl) (hb : env.builtins = builtinsNs := by rfl) (hk : env.scope.kind = .function := by rfl) (hx : env.kindOf x = some .globalImplicit := by rfl) (hn : x ≠ "__name__" := by decide) (hd : (x == ("__debug__" : Str)) = false := by decide) :
    wpAny M A (eval (.Name x pos) env) Q E s := Name_function_global hk hx (loadGlobal_builtin (by rw [hg]; exact (B.keeps S.keep).g) (mg_none_of B.X B.g e) (by rw [hb]; exact (B.keeps S.keep).b) ((B.bi x hn).trans hv) h) hd
end


theorem St.grows {g : Heap} {L : Addr} {m : Str → Option Value} {own new : List (Addr × Obj)} {h h' : Heap} (S : St g L m own h) (hk : Le h h') (hn : ∀ p ∈ new, h'.get? p.1 = some p.2 ∧ h.objs.size ≤ p.1) (nd : (new.map (·.1)).Nodup) :
    St g L m (own ++ new) h' := by
  have S' := S.keeps hk
  refine ⟨S'.ns, S'.keep, S'.off, fun p hp => ?_, ?_⟩
  · rcases List.mem_append.mp hp with hp | hp
    · exact S'.obj p hp
    · have ⟨q1, q2⟩ := hn p hp
      refine ⟨q1, ?_, fun z => ?_⟩
      · cases q : g.get? p.1 with
        | none => rfl
        | some o => exact absurd (Heap.lt_size (S.keep _ _ q)) (Nat.not_lt.mpr q2)
      · exact absurd S.ns.lt (Nat.not_lt.mpr (by rw [← z]; exact q2))
  · rw [List.map_append]
    refine List.nodup_append.mpr ⟨S.apart, nd, fun a ha b hb e => ?_⟩
    obtain ⟨p, hp, rfl⟩ := List.mem_map.mp ha
    obtain ⟨q, hq, rfl⟩ := List.mem_map.mp hb
    have h1 := Heap.lt_size (S.obj p hp).1
    have h2 := (hn q hq).2
    rw [e] at h1
    exact absurd h1 (Nat.not_lt.mpr h2)

theorem for_enum {w : World} {mg mb : Str → Option Value} {A : Around} {env : Env} {xi xv x : Str} {pi pv pt p1 p2 p3 pos : Pos} {x1 : Nat} {body : List Stmt} {l : Addr} {items : Array Value} {Q : Flow → Shared → Prop} {E : Value → Shared → Prop}
    {d : Drawn} {os : OsState} {g : Heap} {m : Str → Option Value} {own : List (Addr × Obj)} {h : Heap} {gens : Array GenState} {tk : Nat}
    (hh : A.handled = none) (B : Bas w mg mb g) (S : St g env.locals m own h) (hx : m x = some (.ref l)) (hl : g.IsList l items)
    (J : Nat → Heap → (Str → Option Value) → List (Addr × Obj) → Array GenState → Prop) (hj : J 0 g m own gens)
    (step : ∀ (E : Value → Shared → Prop) i v tok g₁ m₁ own₁ p h₁ tk₁ gens₁, items[i]? = some v → Le g g₁ → J i g₁ m₁ own₁ gens₁ →
      St g₁ env.locals (fun y => if y = xv then some v else if y = xi then some (.int i tok) else m₁ y) (own₁ ++ p) h₁ →
      wpAny (model PG w) A (execs body env) (fun f s₂ => match f with
        | .next | .cont => ∃ g' m'' own'' h' tk' gens', s₂ = ⟨h', gens', d, tk', os⟩ ∧ Le g₁ g' ∧ St g' env.locals m'' (own'' ++ p) h' ∧ J (i + 1) g' m'' own'' gens'
        | .brk => Q .next s₂
        | .ret v => Q (.ret v) s₂) E ⟨h₁, gens₁, d, tk₁, os⟩)
    (done : ∀ g₁ m₁ own₁ h₁ tk₁ gens₁, Le g g₁ → J items.size g₁ m₁ own₁ gens₁ → St g₁ env.locals m₁ own₁ h₁ → Q .next ⟨h₁, gens₁, d, tk₁, os⟩)
    (hxi : env.kindOf xi = some .local := by rfl) (hxv : env.kindOf xv = some .local := by rfl) (hkx : env.kindOf x = some .local := by rfl) (hkf : env.scope.kind = .function := by rfl)
    (hgl : env.globals = mainGlobals := by rfl) (hbi : env.builtins = builtinsNs := by rfl) (hen : env.kindOf "enumerate" = some .globalImplicit := by rfl) (hxd : (x == ("__debug__" : Str)) = false := by decide) :
    wpAny (model PG w) A (exec (.For (.Tuple [.Name xi pi, .Name xv pv] x1 pt) (.Call (.Name "enumerate" p1) [.Name x p2] [] p3) body [] pos) env) Q E ⟨h, gens, d, tk, os⟩ := by
  have hp : (env.scope.kind == .class || (env.scope.kind == .module && env.locals != env.globals)) = false := by rw [hkf]; rfl
  refine wpAny_For (wpAny_Call_NameR (bn B S rfl boot_enumerate (callWith_type1 (wpAny_items_cons (nm S hx (wpAny_items_nil ?_) hkf hkx hxd))) hgl hbi hkf hen))
  have hlh : h.IsList l items := let ⟨o, ho, r⟩ := hl; ⟨o, S.keep _ _ ho, r⟩
  refine call_enumerate_list (s := ⟨h, _, _, _, _⟩) hlh fun h₃ he hit hz hk => ?_
  dsimp only at he hit hz hk ⊢
  refine wpAny_pyIter_enum (s := ⟨h₃, _, _, _, _⟩) he ?_
  obtain ⟨oi, hoi, hoc, hod⟩ := hit
  have S₃ := S.grows (new := [(h.objs.size + 1, { cls := .type "enumerate", dict := none, data := .fields #[.none, .bool false, .ref h.objs.size, rawInt 0, .none, .none], slots := #[] }), (h.objs.size, oi)]) hk
    (fun p hp => by
      rcases List.mem_cons.mp hp with rfl | hp
      · exact ⟨he, Nat.le_succ _⟩
      · rcases List.mem_singleton.mp hp with rfl
        exact ⟨hoi, Nat.le_refl _⟩)
    (by simp)
  refine forIter (iter_enum (g₀ := g) hh hl hxi hxv hp) J (Le.refl _) ⟨.none, oi, rfl, hoc, hod⟩ S₃ hj ?_ ?_
  · rintro E' i g₁ m₁ own₁ m' own' p h₄ tk₄ gens₄ hi hg hJ ⟨rfl, v, tok, hv, rfl⟩ S₄
    exact step E' i v tok g₁ m₁ _ p h₄ tk₄ gens₄ hv hg hJ S₄
  · exact done

/-- the state behind a call: all old objects kept, the generators' rows grown by bare ones -/
structure Ext (s s' : Shared) : Prop where
  keep : Le s.heap s'.heap
  os : s'.os = s.os
  drawn : s'.drawn = s.drawn
  gens : ∃ more : List GenState, s'.gens = s.gens ++ more.toArray ∧ ∀ x ∈ more, x.bare = true

theorem Ext.refl (s : Shared) : Ext s s := ⟨Le.refl _, rfl, rfl, [], by simp, fun _ h => nomatch h⟩
theorem Ext.trans {a b c : Shared} (x : Ext a b) (y : Ext b c) : Ext a c := by
  obtain ⟨m1, e1, b1⟩ := x.gens
  obtain ⟨m2, e2, b2⟩ := y.gens
  refine ⟨x.keep.trans y.keep, y.os.trans x.os, y.drawn.trans x.drawn, m1 ++ m2, ?_, fun z hz => ?_⟩
  · rw [e2, e1]; simp
  · rcases List.mem_append.mp hz with h | h
    · exact b1 z h
    · exact b2 z h
end Mine
end
section
open PySem PySem.W PySem.Calls PyProof.Rows
set_option maxRecDepth 10000
namespace Mine

def TupSI (g : Heap) (v : Value) (p : Str × Int) : Prop := ∃ t u1 u2, v = .ref t ∧ IsTup g t [.str p.1 u1, .int p.2 u2].toArray
def IsRow (g : Heap) (a : Addr) (row : List (Str × Int)) : Prop := ∃ vs : List Value, g.IsList a vs.toArray ∧ Paired (TupSI g) vs row
def IsInts (g : Heap) (a : Addr) (ns : List Int) : Prop := ∃ vs : List Value, g.IsList a vs.toArray ∧ IntsAre vs ns

theorem Le.list {g h : Heap} (k : Le g h) {a : Addr} {items : Array Value} (x : g.IsList a items) : h.IsList a items := let ⟨o, ho, r⟩ := x; ⟨o, k _ _ ho, r⟩
theorem Le.tupSI {g h : Heap} (k : Le g h) {v : Value} {p : Str × Int} (x : TupSI g v p) : TupSI h v p := let ⟨t, a, b, e, r⟩ := x; ⟨t, a, b, e, r.keeps k⟩
theorem paired_mono {α β : Type} {F G : α → β → Prop} (k : ∀ a b, F a b → G a b) : ∀ {l₁ : List α} {l₂ : List β}, Paired F l₁ l₂ → Paired G l₁ l₂
  | _, _, .nil => .nil
  | _, _, .cons x r => .cons (k _ _ x) (paired_mono k r)
theorem Le.row {g h : Heap} (k : Le g h) {a : Addr} {row : List (Str × Int)} (x : IsRow g a row) : IsRow h a row := let ⟨vs, l, p⟩ := x; ⟨vs, k.list l, paired_mono (fun _ _ => k.tupSI) p⟩
theorem Le.ints {g h : Heap} (k : Le g h) {a : Addr} {ns : List Int} (x : IsInts g a ns) : IsInts h a ns := let ⟨vs, l, p⟩ := x; ⟨vs, k.list l, p⟩
theorem paired_length {α β : Type} {F : α → β → Prop} : ∀ {l₁ : List α} {l₂ : List β}, Paired F l₁ l₂ → l₁.length = l₂.length
  | _, _, .nil => rfl
  | _, _, .cons _ r => by simp [paired_length r]
theorem paired_get {α β : Type} {F : α → β → Prop} : ∀ {l₁ : List α} {l₂ : List β}, Paired F l₁ l₂ → ∀ {i : Nat} {a : α}, l₁[i]? = some a → ∃ b, l₂[i]? = some b ∧ F a b
  | _, _, .nil, i, a, h => by simp at h
  | _, _, .cons x r, 0, a, h => ⟨_, rfl, by simp at h; subst h; exact x⟩
  | _, _, .cons x r, i + 1, a, h => paired_get r (by simpa using h)

abbrev qS : Str := "?"
abbrev opS : Str := "("
abbrev clS : Str := ")"
def pieceText (opened : List Int) (i : Nat) (p : Str × Int) : Str := if p.1 ≠ qS then p.1 else if opened.contains (i : Int) then opS else clS
def textFrom (opened : List Int) (i : Nat) : List (Str × Int) → Str
  | [] => Str.empty
  | p :: r => pieceText opened i p ++ textFrom opened (i + 1) r


theorem ints_reads {h : Heap} {vs : List Value} {ns : List Int} (x : IntsAre vs ns) : ReadsAll h vs (ns.map .int) [] := by
  induction x with
  | nil => exact .nil
  | cons n t _ ih => exact .cons (.int n t) ih
theorem ints_can : ∀ ns : List Int, PyData.canLayAll0 (ns.map .int) = true
  | [] => rfl
  | _ :: r => by simp [PyData.canLayAll0, PyData.canLay0, ints_can r]
theorem ints_depth : ∀ ns : List Int, PyData.depthAll (ns.map .int) = 0
  | [] => rfl
  | _ :: r => by simp [PyData.depthAll, PyData.depth, ints_depth r]

theorem any_eqv (k : Int) : ∀ ns : List Int, ((ns.map PyData.int).any fun y => PyData.eqv y (.int k)) = ns.contains k
  | [] => rfl
  | n :: r => by
    have ih := any_eqv k r
    simp only [List.map_cons, List.any_cons, List.contains_cons, ih]
    congr 1
    simp [PyData.eqv, Bool.beq_comm (a := n)]
theorem in_ints {w : World} {A : Around} {E : Value → Shared → Prop} {s : Shared} {l : Addr} {ns : List Int} {k : Int} {t : Tok} {Q : Value → Shared → Prop} (hl : IsInts s.heap l ns) (hu : A.units + 1 < cLine)
    (h : Q (.bool (ns.contains k)) s) : wpAny (model PG w) A (compareOp .In (.int k t) (.ref l)) Q E s := by
  obtain ⟨vs, ⟨o, ho, hc, n, hd⟩, hi⟩ := hl
  refine SeqAt.in_list_reads (xs := ns.map .int) (d := .int k) (.list ho hc hd (ints_reads hi)) (.int k t) (ints_can ns) rfl (by rw [ints_depth]; simpa using hu) ?_
  have : ((ns.map PyData.int).any fun y => PyData.eqv y (.int k)) = ns.contains k := any_eqv k ns
  rw [this]; exact h

theorem str_dec (x y : Str) : (x.cps.toList == y.cps.toList) = decide (x = y) := by
  obtain ⟨⟨a⟩⟩ := x; obtain ⟨⟨b⟩⟩ := y
  by_cases h : a = b
  · subst h; simp
  · simp [h]
section
variable {w : World} {A : Around} {E : Value → Shared → Prop} {s : Shared} {x y : Str} {t u : Tok} {Q : Value → Shared → Prop}
theorem eqS (h : Q (.bool (decide (x = y))) s) : wpAny (model PG w) A (compareOp .Eq (.str x t) (.str y u)) Q E s := P.eq_str (by rw [str_dec]; exact h)
theorem neS (h : Q (.bool (decide (x ≠ y))) s) : wpAny (model PG w) A (compareOp .NotEq (.str x t) (.str y u)) Q E s := P.ne_str (by
  rw [show (x.cps.toList != y.cps.toList) = decide (x ≠ y) by rw [bne, str_dec]; by_cases q : x = y <;> simp [q]]; exact h)
theorem iaddS (h : ∀ t' k, Q (.str (x ++ y) t') ⟨s.heap, s.gens, s.drawn, k, s.os⟩) (hsz : x.length + y.length ≤ sizeLine) : wpAny (model PG w) A (inplaceOp .Add (.str x t) (.str y u)) Q E s := SB.iadd h hsz
end

theorem textFrom_length {opened : List Int} : ∀ {row : List (Str × Int)} {i : Nat}, (∀ p ∈ row, p.1.length ≤ 8) → (textFrom opened i row).length ≤ 8 * row.length
  | [], _, _ => by simp [textFrom, Str.empty, Str.length]
  | p :: r, i, h => by
    have h1 := textFrom_length (opened := opened) (i := i + 1) (fun q hq => h q (List.mem_cons_of_mem _ hq))
    have h2 : (pieceText opened i p).length ≤ 8 := by
      unfold pieceText
      split
      · exact h p (List.mem_cons_self ..)
      · split <;> decide
    rw [textFrom, Str.length_append, List.length_cons]; omega
theorem textFrom_snoc {opened : List Int} (q : Str × Int) : ∀ (row : List (Str × Int)) (i : Nat), textFrom opened i (row ++ [q]) = textFrom opened i row ++ pieceText opened (i + row.length) q
  | [], i => by simp [textFrom]; rw [Str.append_empty, Str.empty_append]
  | p :: r, i => by
    simp only [List.cons_append, textFrom, textFrom_snoc q r (i + 1), List.length_cons]
    rw [Str.append_assoc, show i + 1 + r.length = i + (r.length + 1) by omega]

set_option maxHeartbeats 4000000 in
theorem text_spec {w : World} {mg mb : Str → Option Value} {A : Around} {R : Result → Shared → Prop} {s : Shared} (B : Bas w mg mb s.heap) (F : Fine A 5) {ra oa : Addr} {row : List (Str × Int)} {opened : List Int}
    (hr : IsRow s.heap ra row) (ho : IsInts s.heap oa opened) (hlen : row.length ≤ 100) (hpl : ∀ p ∈ row, p.1.length ≤ 8)
    (h : ∀ s' t, Ext s s' → R (.ok (.ret (.str (textFrom opened 0 row) t))) s') : codeAny (model PG w) A (.call (.ref 75) ⟨[.ref ra, .ref oa], []⟩) R s := by
  obtain ⟨hp, gens, d, tk, os⟩ := s
  refine enter (fd := fdI 11 (.str "law_mq0175_01" 265) (.ref 74)) (binds := [("row", .ref ra), ("opened", .ref oa)]) B F.room (ho := rfl) rfl rfl rfl (fun h₁ E S B₁ => ?_) (locs rfl) rfl rfl rfl (by decide)
  dsimp only at S B hr ho h ⊢
  generalize hp.objs.size = L at S ⊢
  have F' := F.deeper (envAt (fdI 11 (.str "law_mq0175_01" 265) (.ref 74)) L 75)
  generalize A.deeper (envAt (fdI 11 (.str "law_mq0175_01" 265) (.ref 74)) L 75) = A' at F' ⊢
  obtain ⟨vs, hl, hvs⟩ := hr
  refine wpAny_execs_cons (wpAny_Assign_Name (wpAny_Constant_str (sn S fun h₂ S₂ => ?_)))
  refine wpAny_execs_cons (for_enum F'.handled B S₂ rfl hl
    (fun i g m own gens' => own = [] ∧ gens' = gens ∧ ∃ t, m "text" = some (.str (textFrom opened 0 (row.take i)) t) ∧ m "opened" = some (.ref oa)) ⟨rfl, rfl, _, rfl, rfl⟩ ?_ ?_)
  · rintro E' i v tok g m own p h₄ tk₄ gens₄ hv hg ⟨rfl, rfl, t, ht, hop⟩ S₄
    obtain ⟨q, hq, t1, u1, u2, rfl, htup⟩ := paired_get hvs (show vs[i]? = some v by simpa using hv)
    have htup' := (IsTup.keeps htup hg).keeps S₄.keep
    have hlt : i < row.length := (List.getElem?_eq_some_iff.mp hq).1
    have hsn : textFrom opened 0 (row.take (i + 1)) = textFrom opened 0 (row.take i) ++ pieceText opened i q := by
      rw [List.take_add_one, hq]
      simp only [Option.toList]
      rw [textFrom_snoc, List.length_take, Nat.min_eq_left (Nat.le_of_lt hlt), Nat.zero_add]
    have hln : (textFrom opened 0 (row.take i)).length ≤ 800 := Nat.le_trans (textFrom_length fun p hp => hpl p (List.mem_of_mem_take hp)) (by rw [List.length_take]; omega)
    have hq8 := hpl q (List.mem_of_getElem? hq)
    refine wpAny_execs_cons (wpAny_If (wpAny_isTrue_Compare1 (Subscript_ (nm S₄ rfl (wpAny_Constant_int (item_tupleT htup' (by decide) (by decide) rfl rfl (wpAny_Constant_str (neS (wpAny_truthy_bool ?_)))))))))
    dsimp only
    by_cases hq1 : q.1 = qS
    · rw [if_neg (by rw [decide_eq_true_eq]; exact not_not_intro hq1)]
      have hoh := (Le.trans hg S₄.keep).ints ho
      refine wpAny_execs_cons (wpAny_If (wpAny_isTrue_Compare1 (nm S₄ rfl (nm S₄ hop (in_ints hoh (by have := F'.units; omega) (wpAny_truthy_bool ?_))))))
      cases hc : opened.contains (i : Int) with
      | true =>
        rw [if_pos rfl]
        refine wpAny_execs_cons (wpAny_AugAssign_Name (ln S₄ ht (wpAny_Constant_str (iaddS (fun t' k => sn S₄ fun h₅ S₅ => ?_) ?_))))
        · dsimp only
          refine wpAny_execs_nil (wpAny_execs_nil (wpAny_execs_nil ⟨g, _, [], h₅, _, _, rfl, Le.refl _, S₅, rfl, rfl, t', ?_, hop⟩))
          rw [hsn, show pieceText opened i q = opS by unfold pieceText; rw [if_neg (not_not_intro hq1), if_pos hc]]; rfl
        · rw [sizeLine_eq, show (Str.ofString "(").length = 1 from by decide]; omega
      | false =>
        rw [if_neg (by simp)]
        refine wpAny_execs_cons (wpAny_AugAssign_Name (ln S₄ ht (wpAny_Constant_str (iaddS (fun t' k => sn S₄ fun h₅ S₅ => ?_) ?_))))
        · dsimp only
          refine wpAny_execs_nil (wpAny_execs_nil (wpAny_execs_nil ⟨g, _, [], h₅, _, _, rfl, Le.refl _, S₅, rfl, rfl, t', ?_, hop⟩))
          rw [hsn, show pieceText opened i q = clS by unfold pieceText; rw [if_neg (not_not_intro hq1), if_neg (by rw [hc]; simp)]]; rfl
        · rw [sizeLine_eq, show (Str.ofString ")").length = 1 from by decide]; omega
    · rw [if_pos (by rw [decide_eq_true_eq]; exact hq1)]
      refine wpAny_execs_cons (wpAny_AugAssign_Name (ln S₄ ht (Subscript_ (nm S₄ rfl (wpAny_Constant_int (item_tupleT htup' (by decide) (by decide) rfl rfl (iaddS (fun t' k => sn S₄ fun h₅ S₅ => ?_) ?_)))))))
      · dsimp only
        refine wpAny_execs_nil (wpAny_execs_nil ⟨g, _, [], h₅, _, _, rfl, Le.refl _, S₅, rfl, rfl, t', ?_, hop⟩)
        rw [hsn, show pieceText opened i q = q.1 by unfold pieceText; rw [if_pos hq1]]; rfl
      · rw [sizeLine_eq]; omega
  · rintro g m own h₄ tk₄ gens₄ hg ⟨rfl, rfl, t, ht, hop⟩ S₄
    refine wpAny_execs_cons (wpAny_Return_some (nm S₄ ht ?_))
    have hn : row.take vs.toArray.size = row := by rw [List.size_toArray, paired_length hvs, List.take_length]
    rw [hn]
    exact h _ t ⟨Le.trans hg S₄.keep, rfl, rfl, [], by simp, fun _ hx => nomatch hx⟩
end Mine
end
section
open PySem PySem.W PySem.Calls PyProof.Rows
set_option maxRecDepth 10000
namespace Mine

/-- the level behind a row of signs, none where more are closed than open -/
def lev : Nat → List Nat → Option Nat
  | k, [] => some k
  | k, c :: r => if c = 40 then lev (k + 1) r else if c = 41 then (match k with | 0 => none | k + 1 => lev k r) else lev k r

theorem lev_append : ∀ (a b : List Nat) (k : Nat), lev k (a ++ b) = (lev k a).bind fun k' => lev k' b
  | [], b, k => rfl
  | c :: r, b, k => by
    simp only [List.cons_append, lev]
    split
    · exact lev_append r b _
    · split
      · cases k with
        | zero => rfl
        | succ k => exact lev_append r b k
      · exact lev_append r b k

theorem lev_pair (a b : List Nat) (k : Nat) : lev k (a ++ [40, 41] ++ b) = lev k (a ++ b) := by
  rw [List.append_assoc, lev_append, lev_append]
  congr 1

/-- only brackets -/
def Brk (l : List Nat) : Prop := ∀ c ∈ l, c = 40 ∨ c = 41

theorem lev_rise : ∀ (l : List Nat) (k : Nat), Brk l → (∀ i, ¬ (l[i]? = some 40 ∧ l[i + 1]? = some 41)) → l.head? = some 40 → ∃ n, lev k l = some (k + n + 1)
  | [], _, _, _, h => by simp at h
  | c :: r, k, hb, hn, h => by
    have hc : c = 40 := by simpa using h
    subst hc
    cases r with
    | nil => exact ⟨0, rfl⟩
    | cons d r =>
      have hd : d = 40 := by
        rcases hb d (by simp) with h1 | h1
        · exact h1
        · exact absurd ⟨by simp, by simp [h1]⟩ (hn 0)
      subst hd
      obtain ⟨n, hn'⟩ := lev_rise (40 :: r) (k + 1) (fun c hc => hb c (List.mem_cons_of_mem _ hc)) (fun i => by have := hn (i + 1); simpa using this) rfl
      refine ⟨n + 1, ?_⟩
      show lev (k + 1) (40 :: r) = _
      rw [hn']; congr 1; omega

theorem lev_stuck {l : List Nat} (hb : Brk l) (hn : ∀ i, ¬ (l[i]? = some 40 ∧ l[i + 1]? = some 41)) : lev 0 l = some 0 ↔ l = [] := by
  constructor
  · intro h
    cases l with
    | nil => rfl
    | cons c r =>
      exfalso
      rcases hb c (by simp) with h1 | h1
      · subst h1
        obtain ⟨n, hn'⟩ := lev_rise (40 :: r) 0 hb hn rfl
        rw [hn'] at h
        simp at h
      · subst h1
        simp [lev] at h
  · rintro rfl; rfl

abbrev pairS : Str := "()"
theorem pairS_toList : pairS.cps.toList = [40, 41] := by decide

open StrLaws Builtin Builtin.Str in
theorem parts_lev (x : Str) (k : Nat) : ∀ (cuts : List Nat) (a f : Nat), ChainTo x pairS x.length a cuts f →
    lev k (Str.join Str.empty (partsFrom x 2 a cuts)).cps.toList = lev k (x.cps.toList.drop a) ∧ (Brk x.cps.toList → Brk (Str.join Str.empty (partsFrom x 2 a cuts)).cps.toList) ∧
      (Str.join Str.empty (partsFrom x 2 a cuts)).cps.toList.length + 2 * cuts.length = (x.cps.toList.drop a).length
  | [], a, f, _ => by
    have e : (strSub x a x.length).cps.toList = x.cps.toList.drop a := by
      rw [strSub_toList]
      exact List.take_of_length_le (by simp [Str.length])
    show lev k (strSub x a x.length).cps.toList = _ ∧ _ ∧ (strSub x a x.length).cps.toList.length + 2 * 0 = _
    rw [e]
    refine ⟨rfl, fun hb c hc => ?_, by simp⟩
    have hc' : c ∈ (strSub x a x.length).cps.toList := hc
    rw [e] at hc'
    exact hb c (List.mem_of_mem_drop hc')
  | c :: r, a, f, h => by
    obtain ⟨p, q, e⟩ := partsFrom_ne x 2 (c + 2) r
    obtain ⟨hac, hat, hch⟩ := h
    have hl2 : pairS.length = 2 := by decide
    rw [hl2] at hch
    have e2 : Str.join Str.empty (partsFrom x 2 a (c :: r)) = strSub x a c ++ Str.join Str.empty (partsFrom x 2 (c + 2) r) := by
      show Str.join Str.empty (strSub x a c :: partsFrom x 2 (c + 2) r) = _
      rw [e]
      show strSub x a c ++ Str.empty ++ Str.join Str.empty (p :: q) = _
      rw [Str.append_empty]
    have hs : (x.cps.toList.drop c).take 2 = [40, 41] := by
      have := hat.2
      rw [subAt_eq, hl2, pairS_toList] at this
      exact eq_of_beq this
    have hcl : c + 2 ≤ x.cps.toList.length := by
      have := hat.1
      rw [hl2] at this
      simpa [Str.length] using this
    have split : x.cps.toList.drop a = (x.cps.toList.drop a).take (c - a) ++ [40, 41] ++ x.cps.toList.drop (c + 2) := by
      rw [← hs, List.append_assoc]
      have e5 : (x.cps.toList.drop a).drop (c - a) = x.cps.toList.drop c := by rw [List.drop_drop]; congr 1; omega
      have e6 : (x.cps.toList.drop c).take 2 ++ x.cps.toList.drop (c + 2) = x.cps.toList.drop c := by
        rw [← List.drop_drop]; exact List.take_append_drop 2 _
      rw [e6, ← e5, List.take_append_drop]
    have hsub : (strSub x a c).cps.toList = (x.cps.toList.drop a).take (c - a) := strSub_toList x a c
    refine ⟨?_, fun hb d hd => ?_, ?_⟩
    · rw [e2, Str.cps_append, Array.toList_append, hsub]
      generalize (x.cps.toList.drop a).take (c - a) = u at split
      rw [split, lev_pair, lev_append, lev_append]
      congr 1
      funext k'
      exact (parts_lev x k' r (c + 2) f hch).1
    · rw [e2, Str.cps_append, Array.toList_append] at hd
      rcases List.mem_append.mp hd with hd | hd
      · rw [hsub] at hd
        exact hb d (List.mem_of_mem_drop (List.mem_of_mem_take hd))
      · exact (parts_lev x k r (c + 2) f hch).2.1 hb d hd
    · rw [e2, Str.cps_append, Array.toList_append, hsub, List.length_append]
      have := (parts_lev x k r (c + 2) f hch).2.2
      rw [List.length_drop] at this
      rw [List.length_take, List.length_drop, List.length_cons]
      omega

theorem contains_iff (x : Str) : Txt.contains x pairS = true ↔ ∃ i, x.cps.toList[i]? = some 40 ∧ x.cps.toList[i + 1]? = some 41 := by
  unfold Txt.contains
  rw [StrLaws.found_iff]
  have hl2 : pairS.length = 2 := by decide
  constructor
  · rintro ⟨i, h1, h2⟩
    rw [StrLaws.subAt_eq, hl2, pairS_toList] at h2
    have h2 := eq_of_beq h2
    refine ⟨i, ?_, ?_⟩
    · have := congrArg (·[0]?) h2
      simpa [List.getElem?_take, List.getElem?_drop] using this
    · have := congrArg (·[1]?) h2
      simpa [List.getElem?_take, List.getElem?_drop] using this
  · rintro ⟨i, h1, h2⟩
    have hlt : i + 1 < x.cps.toList.length := (List.getElem?_eq_some_iff.mp h2).1
    refine ⟨i, (by rw [hl2]; have : x.length = x.cps.toList.length := (by simp [Str.length]); omega), ?_⟩
    rw [StrLaws.subAt_eq, hl2, pairS_toList]
    have : (x.cps.toList.drop i).take 2 = [40, 41] := by
      apply List.ext_getElem?
      intro j
      rw [List.getElem?_take]
      split
      · rename_i hj
        rw [List.getElem?_drop]
        match j, hj with
        | 0, _ => simpa using h1
        | 1, _ => simpa using h2
      · rename_i hj
        rw [List.getElem?_eq_none (by simp; omega)]
    rw [this]; rfl

theorem replace_lev (x : Str) (hb : Brk x.cps.toList) (hc : Txt.contains x pairS = true) :
    lev 0 (Txt.replace x pairS Str.empty).cps.toList = lev 0 x.cps.toList ∧ Brk (Txt.replace x pairS Str.empty).cps.toList ∧ (Txt.replace x pairS Str.empty).cps.toList.length < x.cps.toList.length := by
  have hl2 : pairS.length = 2 := by decide
  unfold Txt.replace
  obtain ⟨f, hch⟩ := StrLaws.occ_chain x pairS (x.length + 1)
  have hne : Builtin.Str.occurrences x pairS 0 x.length (x.length + 1) ≠ [] := by
    intro e
    rcases StrLaws.occ_head x pairS (x.length + 1) (by omega) with ⟨_, h⟩ | ⟨i, r, h, _⟩
    · unfold Txt.contains at hc
      rw [StrLaws.found_iff] at hc
      obtain ⟨i, hi⟩ := hc
      exact h i hi
    · rw [e] at h; cases h
  have hif : ((Builtin.Str.occurrences x pairS 0 x.length (x.length + 1)).isEmpty || (pairS.length == 0 && Str.empty.length == 0)) = false := by
    rw [hl2]
    cases h : Builtin.Str.occurrences x pairS 0 x.length (x.length + 1) with
    | nil => exact absurd h hne
    | cons _ _ => rfl
  rw [hif, if_neg Bool.false_ne_true, StrLaws.glued_eq_join, StrLaws.partsBetween_eq, hl2]
  obtain ⟨h1, h2, h3⟩ := parts_lev x 0 _ 0 f hch
  rw [List.drop_zero] at h1 h3
  refine ⟨h1, h2 hb, ?_⟩
  have : 0 < (Builtin.Str.occurrences x pairS 0 x.length (x.length + 1)).length := List.length_pos_iff.mpr hne
  omega

def shownAt (opened : List Int) (i : Nat) (p : Str × Int) : List Nat := if p.1 = opS ∨ opened.contains (i : Int) = true then [40] else if p.1 = clS ∨ p.1 = qS then [41] else []
def shownFrom (opened : List Int) (i : Nat) : List (Str × Int) → List Nat
  | [] => []
  | p :: r => shownAt opened i p ++ shownFrom opened (i + 1) r
theorem shownFrom_snoc {opened : List Int} (q : Str × Int) : ∀ (row : List (Str × Int)) (i : Nat), shownFrom opened i (row ++ [q]) = shownFrom opened i row ++ shownAt opened (i + row.length) q
  | [], i => by simp [shownFrom]
  | p :: r, i => by
    simp only [List.cons_append, shownFrom, shownFrom_snoc q r (i + 1), List.length_cons]
    rw [List.append_assoc, show i + 1 + r.length = i + (r.length + 1) by omega]
theorem shownAt_len (opened : List Int) (i : Nat) (p : Str × Int) : (shownAt opened i p).length ≤ 1 := by
  unfold shownAt; split
  · simp
  · split <;> simp
theorem shownAt_brk (opened : List Int) (i : Nat) (p : Str × Int) : Brk (shownAt opened i p) := by
  unfold shownAt Brk; split
  · simp
  · split <;> simp
theorem shownFrom_length {opened : List Int} : ∀ {row : List (Str × Int)} {i : Nat}, (shownFrom opened i row).length ≤ row.length
  | [], _ => by simp [shownFrom]
  | p :: r, i => by
    have h1 := shownFrom_length (opened := opened) (row := r) (i := i + 1)
    have h2 := shownAt_len opened i p
    rw [shownFrom, List.length_append, List.length_cons]; omega
theorem shownFrom_brk {opened : List Int} : ∀ {row : List (Str × Int)} {i : Nat}, Brk (shownFrom opened i row)
  | [], _ => by intro c hc; simp [shownFrom] at hc
  | p :: r, i => by
    intro c hc
    rw [shownFrom] at hc
    rcases List.mem_append.mp hc with hc | hc
    · exact shownAt_brk opened i p c hc
    · exact shownFrom_brk (row := r) c hc

def mkS (l : List Nat) : Str := ⟨l.toArray⟩
theorem mkS_append (a b : List Nat) : mkS a ++ mkS b = mkS (a ++ b) := Str.ext' (by simp [mkS, Str.cps_append])
theorem mkS_length (a : List Nat) : (mkS a).length = a.length := by simp [mkS, Str.length]
theorem mkS_toList (a : List Nat) : (mkS a).cps.toList = a := by simp [mkS]
theorem mkS_of (x : Str) : x = mkS x.cps.toList := Str.ext' (by simp [mkS])

set_option maxHeartbeats 4000000 in
theorem strikes_spec {w : World} {mg mb : Str → Option Value} {A : Around} {R : Result → Shared → Prop} {s : Shared} (B : Bas w mg mb s.heap) (F : Fine A 5) {ra oa : Addr} {row : List (Str × Int)} {opened : List Int}
    (hr : IsRow s.heap ra row) (ho : IsInts s.heap oa opened) (hlen : row.length ≤ 100)
    (h : ∀ s', Ext s s' → R (.ok (.ret (.bool (decide (lev 0 (shownFrom opened 0 row) = some 0))))) s') : codeAny (model PG w) A (.call (.ref 82) ⟨[.ref ra, .ref oa], []⟩) R s := by
  obtain ⟨hp, gens, d, tk, os⟩ := s
  refine enter (fd := fdI 12 (.str "law_mq0175_01" 265) (.ref 81)) (binds := [("row", .ref ra), ("opened", .ref oa)]) B F.room (ho := rfl) rfl rfl rfl (fun h₁ E S B₁ => ?_) (locs rfl) rfl rfl rfl (by decide)
  dsimp only at S B hr ho h ⊢
  generalize hp.objs.size = L at S ⊢
  have F' := F.deeper (envAt (fdI 12 (.str "law_mq0175_01" 265) (.ref 81)) L 82)
  generalize A.deeper (envAt (fdI 12 (.str "law_mq0175_01" 265) (.ref 81)) L 82) = A' at F' ⊢
  obtain ⟨vs, hl, hvs⟩ := hr
  refine wpAny_execs_cons (wpAny_Assign_Name (wpAny_Constant_str (sn S fun h₂ S₂ => ?_)))
  dsimp only at S₂ ⊢
  refine wpAny_execs_cons (for_enum F'.handled B S₂ rfl hl
    (fun i g m own gens' => own = [] ∧ gens' = gens ∧ ∃ t, m "shown" = some (.str (mkS (shownFrom opened 0 (row.take i))) t) ∧ m "opened" = some (.ref oa)) ⟨rfl, rfl, _, rfl, rfl⟩ ?_ ?_)
  · rintro E' i v tok g m own p h₄ tk₄ gens₄ hv hg ⟨rfl, rfl, t, ht, hop⟩ S₄
    obtain ⟨q, hq, t1, u1, u2, rfl, htup⟩ := paired_get hvs (show vs[i]? = some v by simpa using hv)
    have htup' := (IsTup.keeps htup hg).keeps S₄.keep
    have hlt : i < row.length := (List.getElem?_eq_some_iff.mp hq).1
    have hsn : shownFrom opened 0 (row.take (i + 1)) = shownFrom opened 0 (row.take i) ++ shownAt opened i q := by
      rw [List.take_add_one, hq]
      simp only [Option.toList]
      rw [shownFrom_snoc, List.length_take, Nat.min_eq_left (Nat.le_of_lt hlt), Nat.zero_add]
    have hln : (shownFrom opened 0 (row.take i)).length ≤ 100 := Nat.le_trans shownFrom_length (by rw [List.length_take]; omega)
    have hoh := (Le.trans hg S₄.keep).ints ho
    refine wpAny_execs_cons (wpAny_If (wpAny_isTrue_BoolOp (wpAny_allTrue_Or_cons (wpAny_isTrue_Compare1 (Subscript_ (nm S₄ rfl (wpAny_Constant_int (item_tupleT htup' (by decide) (by decide) rfl rfl (wpAny_Constant_str (eqS (wpAny_truthy_bool ?_)))))))))))
    dsimp only
    by_cases c1 : q.1 = opS
    · have hat : shownAt opened i q = [40] := by unfold shownAt; rw [if_pos (.inl c1)]
      rw [if_pos (decide_eq_true c1), if_pos rfl]
      refine wpAny_execs_cons (wpAny_AugAssign_Name (ln S₄ ht (wpAny_Constant_str (iaddS (fun t' k => sn S₄ fun h₅ S₅ => ?_) ?_))))
      · dsimp only
        refine wpAny_execs_nil (wpAny_execs_nil (⟨g, _, [], h₅, _, _, rfl, Le.refl _, S₅, rfl, rfl, t', ?_, hop⟩))
        rw [hsn, hat, ← mkS_append]; rfl
      · rw [sizeLine_eq, mkS_length, show (Str.ofString "(").length = 1 from by decide]; omega
    · rw [if_neg (by rw [decide_eq_true_eq]; exact c1)]
      refine wpAny_allTrue_Or_cons (wpAny_isTrue_Compare1 (nm S₄ rfl (nm S₄ hop (in_ints hoh (by have := F'.units; omega) (wpAny_truthy_bool ?_)))))
      cases hc : opened.contains (i : Int) with
      | true =>
        have hat : shownAt opened i q = [40] := by unfold shownAt; rw [if_pos (.inr hc)]
        rw [if_pos rfl, if_pos rfl]
        refine wpAny_execs_cons (wpAny_AugAssign_Name (ln S₄ ht (wpAny_Constant_str (iaddS (fun t' k => sn S₄ fun h₅ S₅ => ?_) ?_))))
        · dsimp only
          refine wpAny_execs_nil (wpAny_execs_nil (⟨g, _, [], h₅, _, _, rfl, Le.refl _, S₅, rfl, rfl, t', ?_, hop⟩))
          rw [hsn, hat, ← mkS_append]; rfl
        · rw [sizeLine_eq, mkS_length, show (Str.ofString "(").length = 1 from by decide]; omega
      | false =>
        rw [if_neg (by simp)]
        refine wpAny_allTrue_Or_nil ?_
        rw [if_neg (by simp)]
        have c2 : ¬ (q.1 = opS ∨ opened.contains (i : Int) = true) := by rw [hc]; simpa using c1
        refine wpAny_execs_cons (wpAny_If (wpAny_isTrue_BoolOp (wpAny_allTrue_Or_cons (wpAny_isTrue_Compare1 (Subscript_ (nm S₄ rfl (wpAny_Constant_int (item_tupleT htup' (by decide) (by decide) rfl rfl (wpAny_Constant_str (eqS (wpAny_truthy_bool ?_)))))))))))
        by_cases c3 : q.1 = clS
        · have hat : shownAt opened i q = [41] := by unfold shownAt; rw [if_neg c2, if_pos (.inl c3)]
          rw [if_pos (decide_eq_true c3), if_pos rfl]
          refine wpAny_execs_cons (wpAny_AugAssign_Name (ln S₄ ht (wpAny_Constant_str (iaddS (fun t' k => sn S₄ fun h₅ S₅ => ?_) ?_))))
          · dsimp only
            refine wpAny_execs_nil (wpAny_execs_nil (wpAny_execs_nil (⟨g, _, [], h₅, _, _, rfl, Le.refl _, S₅, rfl, rfl, t', ?_, hop⟩)))
            rw [hsn, hat, ← mkS_append]; rfl
          · rw [sizeLine_eq, mkS_length, show (Str.ofString ")").length = 1 from by decide]; omega
        · rw [if_neg (by rw [decide_eq_true_eq]; exact c3)]
          refine wpAny_allTrue_Or_cons (wpAny_isTrue_Compare1 (Subscript_ (nm S₄ rfl (wpAny_Constant_int (item_tupleT htup' (by decide) (by decide) rfl rfl (wpAny_Constant_str (eqS (wpAny_truthy_bool ?_))))))))
          by_cases c4 : q.1 = qS
          · have hat : shownAt opened i q = [41] := by unfold shownAt; rw [if_neg c2, if_pos (.inr c4)]
            rw [if_pos (decide_eq_true c4), if_pos rfl]
            refine wpAny_execs_cons (wpAny_AugAssign_Name (ln S₄ ht (wpAny_Constant_str (iaddS (fun t' k => sn S₄ fun h₅ S₅ => ?_) ?_))))
            · dsimp only
              refine wpAny_execs_nil (wpAny_execs_nil (wpAny_execs_nil (⟨g, _, [], h₅, _, _, rfl, Le.refl _, S₅, rfl, rfl, t', ?_, hop⟩)))
              rw [hsn, hat, ← mkS_append]; rfl
            · rw [sizeLine_eq, mkS_length, show (Str.ofString ")").length = 1 from by decide]; omega
          · rw [if_neg (by rw [decide_eq_true_eq]; exact c4)]
            refine wpAny_allTrue_Or_nil ?_
            rw [if_neg (by simp)]
            have hat : shownAt opened i q = [] := by unfold shownAt; rw [if_neg c2, if_neg (by simp [c3, c4])]
            refine wpAny_execs_nil (wpAny_execs_nil (wpAny_execs_nil ⟨g, _, [], h₄, _, _, rfl, Le.refl _, S₄, rfl, rfl, t, ?_, hop⟩))
            rw [hsn, hat, List.append_nil]; exact ht
  · rintro g m own h₄ tk₄ gens₄ hg ⟨rfl, rfl, t, ht, hop⟩ S₄
    have hn : row.take vs.toArray.size = row := by rw [List.size_toArray, paired_length hvs, List.take_length]
    rw [hn] at ht
    refine wpAny_execs_cons (wpAny_While (codeAny_whileLoop (fun k s' => ∃ x t h₅ tk₅ m', s' = ⟨h₅, gens₄, d, tk₅, os⟩ ∧ St g L m' [] h₅ ∧ m' "shown" = some (.str x t) ∧ Brk x.cps.toList ∧ x.cps.toList.length ≤ 100 ∧
      lev 0 x.cps.toList = lev 0 (shownFrom opened 0 row) ∧ k = x.cps.toList.length) ?_ _ ⟨mkS (shownFrom opened 0 row), t, h₄, tk₄, m, rfl, S₄, ht, ?_, ?_, ?_, rfl⟩))
    · rintro k s' ⟨x, t, h₅, tk₅, m', rfl, S₅, hx, hb, hl100, hlev, rfl⟩
      refine wpAny_isTrue_Compare1 (wpAny_Constant_str (nm S₅ hx (SB.contains (wpAny_truthy_bool ?_))))
      cases hc : Txt.contains x pairS with
      | true =>
        rw [if_pos rfl]
        obtain ⟨r1, r2, r3⟩ := replace_lev x hb hc
        refine wpAny_execs_cons (wpAny_Assign_Name (MethodCall_ (nm S₅ hx (GM.replace (callWith_method1 (wpAny_items_cons (wpAny_Constant_str (wpAny_items_cons (wpAny_Constant_str (wpAny_items_nil ?_))))))))))
        refine SC.replace (x := x) (y := pairS) (z := Str.empty) (by simp) (by simp) (by simp) (by decide) ?_ fun t' k => sn S₅ fun h₆ S₆ => ?_
        · have : x.length = x.cps.toList.length := by simp [Str.length]
          rw [show Str.empty.length = 0 from rfl, this]; omega
        · dsimp only at S₆ ⊢
          exact wpAny_execs_nil ⟨_, r3, _, t', h₆, _, _, rfl, S₆, rfl, r2, by omega, r1.trans hlev, rfl⟩
      | false =>
        rw [if_neg (by simp)]
        refine wpAny_execs_nil (wpAny_execs_cons (wpAny_Return_some (wpAny_Compare1 (nm S₅ hx (wpAny_Constant_str (eqS ?_))))))
        have hno : ∀ i, ¬ (x.cps.toList[i]? = some 40 ∧ x.cps.toList[i + 1]? = some 41) := fun i hi => by
          have := (contains_iff x).mpr ⟨i, hi⟩
          rw [hc] at this; cases this
        have e : decide (x = Str.ofString "") = decide (lev 0 (shownFrom opened 0 row) = some 0) := by
          rw [← hlev]
          refine decide_eq_decide.mpr (Iff.trans ?_ (lev_stuck hb hno).symm)
          constructor
          · rintro rfl; decide
          · intro hx0; rw [mkS_of x, hx0]; decide
        rw [e]
        exact h _ ⟨Le.trans hg S₅.keep, rfl, rfl, [], by simp, fun _ hx => nomatch hx⟩
    · rw [mkS_toList]; exact shownFrom_brk
    · rw [mkS_toList]; exact Nat.le_trans shownFrom_length hlen
    · rw [mkS_toList]
end Mine
end
section
open PySem PySem.W PySem.W.X PySem.Calls PyProof.Rows
set_option maxRecDepth 10000
namespace Mine

section
variable {w : World} {A : Around} {c : Code} {fs : List Frame} {s : Shared} {P : End → Shared → Prop} {env : Env} {K : Flow → Sem PySem.Fin} {H : Value → Sem PySem.Fin} {gd : Bool → Bool} {lv : List Value → List Value}

theorem sx_wrap {α : Type} {m : Sem α} {K : α → Sem PySem.Fin} (h : wpAny (model PG w) (A.over c fs) m (fun a s' => SegX (model PG w) A c (K a) fs s' P) (fun x s' => SegX (model PG w) A c (H x) fs s' P) s) :
    SegX (model PG w) A c (m.wrap K H gd lv) fs s P := by
  rintro Γ p rfl hΓ
  obtain ⟨e, s', hr, hq⟩ := runs_wrap_of_wp (Φ := fun e s' => e.quiet = true ∧ P e s') K H gd lv m (h (Γ.over fs) p (hΓ.over fs)) (fun a p' s' h' => h' Γ p' rfl hΓ) (fun x p' s' h' => h' Γ p' rfl hΓ)
  exact ⟨e, s', hr, hq⟩

theorem sx_execs_cons {st : Stmt} {rest : List Stmt}
    (h : SegX (model PG w) A c ((exec st env).wrap (fun f => match f with | .next => (execs rest env).wrap K H gd lv | f => K f) H gd lv) fs s P) :
    SegX (model PG w) A c ((execs (st :: rest) env).wrap K H gd lv) fs s P := by rw [execs_cons_wrap]; exact h
theorem sx_execs_nil (h : SegX (model PG w) A c (K .next) fs s P) : SegX (model PG w) A c ((execs [] env).wrap K H gd lv) fs s P := h

theorem sx_If {test : Expr} {body orelse : List Stmt} {pos : Pos}
    (h : wpAny (model PG w) (A.over c fs) (isTrue test env (eval test env)) (fun b s' => if b = true then SegX (model PG w) A c ((execs body env).wrap K H gd lv) fs s' P else SegX (model PG w) A c ((execs orelse env).wrap K H gd lv) fs s' P)
      (fun x s' => SegX (model PG w) A c (H x) fs s' P) s) :
    SegX (model PG w) A c ((exec (.If test body orelse pos) env).wrap K H gd lv) fs s P := by
  rw [exec_If, Sem.bind_eq_wrap', Sem.wrap_wrap]
  refine sx_wrap (wpAny_standAt ?_)
  rw [Sem.bind_eq_wrap', Sem.wrap_wrap]
  refine sx_wrap (wpAny_mono h (fun b s' hb => ?_) fun x s' hx => hx)
  cases b with
  | true => rw [if_pos rfl] at hb; exact hb
  | false => rw [if_neg Bool.false_ne_true] at hb; exact hb

theorem sx_Yield {e : Expr} {ypos pos : Pos} (hfs : splitAtGen fs = none) (hgd : gd false = false) (hfg : fs.any Frame.guarded = false)
    (h : wpAny (model PG w) (A.over c fs) (eval e env) (fun v s' => ∀ l k p, (∀ s'' P', SegX (model PG w) A c (K .next) fs s'' P' → SegX (model PG w) A c (k (.send .none)) fs s'' P') → P (.susp v false l k c p fs) s')
      (fun x s' => SegX (model PG w) A c (H x) fs s' P) s) (hco : env.scope.isCoroutine = false := by rfl) (hi : interactive env = false := by rfl) :
    SegX (model PG w) A c ((exec (.Expr (.Yield (some e) ypos) pos) env).wrap K H gd lv) fs s P := by
  rw [exec_Expr env _ pos hi rfl]
  show SegX (model PG w) A c (.at pos fun _ => ((eval e env >>= fun v => (standAt ypos >>= fun _ => yieldOut env v)) >>= fun x =>
    dropValue (.Yield (some e) ypos) pos x).wrap K H gd lv) fs s P
  have hy : ∀ v, yieldOut env v = yieldValue v := fun v => by simp only [yieldOut, hco, Bool.false_eq_true, if_false]
  simp only [hy]
  refine s_skim PG w A c fs P s _ 1 ?_
  show SegX (model PG w) A c (((eval e env >>= fun v => (standAt ypos >>= fun _ => yieldValue v)) >>= fun x =>
    dropValue (.Yield (some e) ypos) pos x).wrap K H gd lv) fs s P
  rw [Sem.bind_eq_wrap', Sem.bind_eq_wrap', Sem.wrap_wrap, Sem.wrap_wrap]
  refine sx_wrap (wpAny_mono h (fun v s' h' => ?_) fun _ _ x => x)
  refine s_skim PG w A c fs P s' _ 1 ?_
  have key : ∀ kk : Resume → Sem PySem.Fin, (∀ s'' P', SegX (model PG w) A c (K .next) fs s'' P' → SegX (model PG w) A c (kk (.send .none)) fs s'' P') → SegX (model PG w) A c (.yield v (gd false) (lv []) kk) fs s' P := by
    intro kk hk
    rw [hgd]
    exact s_yield PG w A c fs P s' v (lv []) kk hfs hfg (fun p => h' _ _ p hk)
  exact key _ fun s'' P' hx => hx

theorem sx_For {target iter : Expr} {body : List Stmt} {pos : Pos} (hgd : gd false = false)
    (h : wpAny (model PG w) (A.over c fs) (eval iter env) (fun x s₁ => wpAny (model PG w) (A.over c fs) (pyIter x) (fun it s₂ =>
      ∀ p kf l, (∀ s' P', SegX (model PG w) A c (K .next) fs s' P' → SegX (model PG w) A c (kf (.ok .next)) fs s' P') →
        SegX (model PG w) A (.forLoop target it body [] env) (denote table (.forLoop target it body [] env)) (.ret kf none false l c p [] :: fs) s₂ P) (fun x s' => SegX (model PG w) A c (H x) fs s' P) s₁)
      (fun x s' => SegX (model PG w) A c (H x) fs s' P) s)
    (hs : ∀ x, foldedSetIterable iter env x = pure x := by intro _; rfl) :
    SegX (model PG w) A c ((exec (.For target iter body [] pos) env).wrap K H gd lv) fs s P := by
  rw [exec_For, Sem.bind_eq_wrap', Sem.wrap_wrap]
  refine sx_wrap (wpAny_standAt ?_)
  rw [Sem.bind_eq_wrap', Sem.wrap_wrap]
  refine sx_wrap (wpAny_mono h (fun x s₁ h₁ => ?_) fun _ _ x => x)
  rw [hs, Sem.bind_eq_wrap', Sem.wrap_wrap]
  refine sx_wrap (wpAny_pure ?_)
  rw [Sem.bind_eq_wrap', Sem.wrap_wrap]
  refine sx_wrap (wpAny_standAt ?_)
  rw [Sem.bind_eq_wrap', Sem.wrap_wrap]
  refine sx_wrap (wpAny_holding (wpAny_mono h₁ (fun it s₂ h₂ => ?_) fun _ _ x => x))
  have key : ∀ kf : Result → Sem PySem.Fin, (∀ s' P', SegX (model PG w) A c (K .next) fs s' P' → SegX (model PG w) A c (kf (.ok .next)) fs s' P') → SegX (model PG w) A c (.call (.forLoop target it body [] env) none (gd false) (lv []) kf) fs s₂ P := by
    intro kf hk
    rw [hgd]
    exact s_call PG w A c fs P s₂ _ none false (lv []) kf fun p => h₂ p kf (lv []) hk
  exact key _ fun s' P' hx => hx

/-- what a turn's end does -/
def turnK (cL : Code) : Flow → Sem PySem.Fin
  | .next | .cont => .pure (.again cL)
  | .brk => .pure (.done .next)
  | .ret v => .pure (.done (.ret v))

theorem sx_forLoop {target : Expr} {it : Value} {body : List Stmt}
    (h : ∀ HL : Value → Sem PySem.Fin, wpAny (model PG w) (A.over (.forLoop target it body [] env) fs) (pyNext it) (fun r s₁ => match r with
      | none => SegX (model PG w) A (.block [] env) (.pure (.done .next)) fs s₁ P
      | some v => wpAny (model PG w) (A.over (.forLoop target it body [] env) fs) (letOwnedTupleGo target it v) (fun _ s₂ => wpAny (model PG w) (A.over (.forLoop target it body [] env) fs) (assign target env v) (fun _ s₃ =>
          SegX (model PG w) A (.forLoop target it body [] env) ((execs body env).wrap (turnK (.forLoop target it body [] env)) HL id id) fs s₃ P) (fun _ _ => False) s₂) (fun _ _ => False) s₁)
      (fun _ _ => False) s) :
    SegX (model PG w) A (.forLoop target it body [] env) (denote table (.forLoop target it body [] env)) fs s P := by
  show SegX (model PG w) A _ ((forTurn target it body [] env).onRaise (fun x => do noteFrame x env; theTreesLotGoes x)) fs s P
  unfold forTurn
  rw [Sem.onRaise_eq_wrap, Sem.bind_eq_wrap', Sem.wrap_wrap]
  refine sx_wrap (wpAny_standAt ?_)
  rw [Sem.bind_eq_wrap', Sem.wrap_wrap, Sem.onRaise_eq_wrap, Sem.wrap_wrap]
  have h' := h (fun e => (do noteFrame e env; theTreesLotGoes e : Sem Unit).bind fun _ => .raise e)
  refine sx_wrap (wpAny_mono h' (fun r s₁ h₁ => ?_) fun _ _ x => x.elim)
  cases r with
  | none => exact s_again PG w A _ fs P s₁ (.block [] env) rfl h₁
  | some v =>
    show SegX (model PG w) A _ ((letOwnedTupleGo target it v >>= fun _ => assign target env v >>= fun _ => execs body env >>= _).wrap _ _ _ _) fs s₁ P
    rw [Sem.bind_eq_wrap', Sem.wrap_wrap]
    refine sx_wrap (wpAny_mono h₁ (fun _ s₂ h₂ => ?_) fun _ _ x => x.elim)
    rw [Sem.bind_eq_wrap', Sem.wrap_wrap]
    refine sx_wrap (wpAny_mono h₂ (fun _ s₃ h₃ => ?_) fun _ _ x => x.elim)
    rw [Sem.bind_eq_wrap', Sem.wrap_wrap]
    exact s_eq PG w A _ fs P s₃ _ _ (Sem.wrap_congr (execs body env) _ _ (fun f => by cases f <;> rfl) (fun e => rfl)) h₃

theorem sx_func {body : List Stmt}
    (h : ∀ HF, SegX (model PG w) A (.func body env) ((execs body env).wrap (fun f => .pure (.done (.ret (match f with | .ret v => v | _ => .none)))) HF id id) fs s P) :
    SegX (model PG w) A (.func body env) (denote table (.func body env)) fs s P := by
  show SegX _ A _ (.point [] fun _ => ((execs body env).onRaise (leaving env)) >>= _) fs s P
  refine s_skim PG w A _ fs P s _ 1 ?_
  show SegX _ A _ (((execs body env).onRaise (leaving env)) >>= _) fs s P
  rw [Sem.onRaise_eq_wrap, Sem.bind_eq_wrap', Sem.wrap_wrap]
  rw [Sem.wrap_congr (execs body env) _ _ (K' := fun f => .pure (.done (.ret (match f with | .ret v => v | _ => .none))))
    (H' := fun e => (leaving env e).wrap (fun _ => .raise e) .raise id id) (fun f => by cases f <;> rfl)
    (fun e => by rw [Sem.bind_eq_wrap, Sem.wrap_wrap]; rfl)]
  exact h _
end
end Mine
end
section
open PySem PySem.W PySem.W.X PySem.Calls PyProof.Rows
set_option maxRecDepth 10000
namespace Mine

/-- the objects of an enumerate over a text -/
def enumParS (e it : Addr) (x : Str) (t : Tok) (i : Nat) (p : List (Addr × Obj)) : Prop :=
  ∃ old oi, p = [(e, { cls := .type "enumerate", dict := none, data := .fields #[.none, .bool false, .ref it, rawInt i, .none, old], slots := #[] }), (it, oi)] ∧
    oi.cls = .type (strIterType x) ∧ oi.data = .fields #[.str x t, .int i 0]
def enumPutS (x : Str) (xi xv : Str) (i : Nat) (m : Str → Option Value) (own : List (Addr × Obj)) (m' : Str → Option Value) (own' : List (Addr × Obj)) : Prop :=
  own' = own ∧ ∃ c u tok, x.cps[i]? = some c ∧ m' = fun y => if y = xv then some (.str ⟨#[c]⟩ u) else if y = xi then some (.int i tok) else m y

theorem drawsStr {w : World} {A : Around} (hh : A.handled = none) (it : Addr) (x : Str) (t : Tok) :
    Draws PG w A it [it] x.cps.size (fun i v => ∃ c u, x.cps[i]? = some c ∧ v = .str ⟨#[c]⟩ u) (fun i h => h.IsStrIter it (strIterType x) x t i) := by
  unfold strIterType
  split
  · exact Draws.strAscii hh it x t
  · exact Draws.strWide hh it x t

theorem iter_enumS {w : World} {A : Around} {env : Env} {xi xv : Str} {pi pv pt : Pos} {x1 : Nat} {e it : Addr} {g₀ : Heap} {x : Str} {t : Tok}
    (hh : A.handled = none) (hxi : env.kindOf xi = some .local) (hxv : env.kindOf xv = some .local)
    (hp : (env.scope.kind == .class || (env.scope.kind == .module && env.locals != env.globals)) = false) :
    Iter w A env (.Tuple [.Name xi pi, .Name xv pv] x1 pt) (.ref e) g₀ x.cps.size (enumParS e it x t) (enumPutS x xi xv) := by
  have D : Draws PG w A.in1 it [it] x.cps.size (fun i v => ∃ c u, x.cps[i]? = some c ∧ v = .str ⟨#[c]⟩ u) (fun i h => h.IsStrIter it (strIterType x) x t i) := drawsStr (A := A.in1) hh it x t
  constructor
  · rintro i g m own p h gens d tk os E X Body hi hg ⟨old, oi, rfl, hc, hd⟩ S hB
    have he : IsEnum h e it ((i : Nat) : Int) old := (S.obj (e, _) (List.mem_append_right _ (.head _))).1
    have hoi := (S.obj (it, oi) (List.mem_append_right _ (.tail _ (.head _)))).1
    have hit : h.IsStrIter it (strIterType x) x t i := ⟨oi, hoi, hc, hd⟩
    have hei : e ≠ it := by
      have := S.apart
      rw [List.map_append] at this
      have := (List.nodup_append.mp this).2.1
      simp at this
      exact this
    have heL : e ≠ env.locals := (S.obj (e, _) (List.mem_append_right _ (.head _))).2.2
    have hiL : it ≠ env.locals := (S.obj (it, oi) (List.mem_append_right _ (.tail _ (.head _)))).2.2
    refine wpAny_pyNext_enum_itemD (s := ⟨h, gens, d, tk, os⟩) D he hit hi hei (by simpa using hei) fun v h₁ tk₁ hv heo hit₁ ht₁ hz₁ hk₁ => ?_
    obtain ⟨c, u, hcx, rfl⟩ := hv
    refine wpAny_letOwnedTupleGo_enum heo fun h₂ he₂ hs₂ => ?_
    replace hs₂ : Heap.SameBut e h₁ h₂ := hs₂
    have ht₂ : h₂.IsTuple h.objs.size #[.int i tk₁, .str ⟨#[c]⟩ u] := ⟨_, (hs₂.2 _ (Nat.ne_of_gt (Heap.lt_size he))).trans ht₁, rfl, _, rfl⟩
    have hz₂ : h₂.objs.size = h.objs.size + 1 := hs₂.1.trans hz₁
    refine wpAny_assign_Tuple hh ht₂ rfl rfl fun h₃ hx₃ => ?_
    replace hx₃ : Heap.ExtBut h₂.objs.size h₂ h₃ := hx₃
    have old₃ : ∀ b o, b < h.objs.size → h₂.get? b = some o → h₃.get? b = some o := fun b o hb x => hx₃ b o (by rw [hz₂]; exact Nat.ne_of_lt (Nat.lt_succ_of_lt hb)) x
    have up : ∀ b o, b ≠ e → b ≠ it → h.get? b = some o → h₃.get? b = some o := fun b o h1 h2 x =>
      old₃ b o (Heap.lt_size x) (hs₂.extBut b o h1 (hk₁ b o h1 h2 x))
    obtain ⟨oi', hoi', hc', hd'⟩ := hit₁
    have hoi₃ : h₃.get? it = some oi' := old₃ it oi' (Heap.lt_size hoi) (hs₂.extBut it oi' (Ne.symm hei) hoi')
    have he₃ := old₃ e _ (Heap.lt_size he) he₂
    have S₃ : St g env.locals m (own ++ [(e, { cls := .type "enumerate", dict := none, data := .fields #[.none, .bool false, .ref it, rawInt ((i : Int) + 1), .none, .str ⟨#[c]⟩ u], slots := #[] }), (it, oi')]) h₃ := by
      obtain ⟨on, es, ep, hon, r⟩ := S.ns
      refine ⟨⟨on, es, ep, up _ _ (Ne.symm heL) (Ne.symm hiL) hon, r⟩, fun b o x => up b o ?_ ?_ (S.keep b o x), S.off, fun q hq => ?_, ?_⟩
      · rintro rfl
        have := (S.obj (b, _) (List.mem_append_right _ (.head _))).2.1
        rw [this] at x; cases x
      · rintro rfl
        have := (S.obj (b, oi) (List.mem_append_right _ (.tail _ (.head _)))).2.1
        rw [this] at x; cases x
      · rcases List.mem_append.mp hq with hq | hq
        · have y := S.obj q (List.mem_append_left _ hq)
          have ap := S.apart
          rw [List.map_append] at ap
          have ap := (List.nodup_append.mp ap).2.2 q.1 (List.mem_map_of_mem hq)
          exact ⟨up _ _ (ap e (.head _)) (ap it (.tail _ (.head _))) y.1, y.2⟩
        · rcases List.mem_cons.mp hq with rfl | hq
          · exact ⟨he₃, (S.obj (e, _) (List.mem_append_right _ (.head _))).2⟩
          · rcases List.mem_singleton.mp hq with rfl
            exact ⟨hoi₃, (S.obj (it, oi) (List.mem_append_right _ (.tail _ (.head _)))).2⟩
      · have ap := S.apart
        rw [List.map_append] at ap ⊢
        exact ap
    show wpAny _ A (do holding [Value.str ⟨#[c]⟩ u] (assign (.Name xi pi) env (.int i tk₁)); do holding [] (assign (.Name xv pv) env (.str ⟨#[c]⟩ u)); pure ()) _ _ _
    refine wpAny_bind (wpAny_holding (wpAny_assign_Name (wpAny_storeName_local hxi S₃.ns (fun h₄ hn₄ hs₄ => ?_) hp)))
    have S₄ := S₃.set hn₄ hs₄
    refine wpAny_bind (wpAny_holding (wpAny_assign_Name (wpAny_storeName_local hxv hn₄ (fun h₅ hn₅ hs₅ => wpAny_pure ?_) hp)))
    have S₅ := S₄.set hn₅ hs₅
    exact hB _ _ own h₅ _ ⟨_, oi', by rw [show ((i + 1 : Nat) : Int) = (i : Int) + 1 by push_cast; rfl], hc', hd'⟩ ⟨rfl, c, u, tk₁, hcx, rfl⟩ S₅
  · rintro g m own p h gens d tk os E X Y hg ⟨old, oi, rfl, hc, hd⟩ S hX
    have he : IsEnum h e it ((x.cps.size : Nat) : Int) old := (S.obj (e, _) (List.mem_append_right _ (.head _))).1
    have hoi := (S.obj (it, oi) (List.mem_append_right _ (.tail _ (.head _)))).1
    have hit : h.IsStrIter it (strIterType x) x t x.cps.size := ⟨oi, hoi, hc, hd⟩
    refine wpAny_pyNext_enum_endD (s := ⟨h, gens, d, tk, os⟩) D he hit fun h₁ he₁ => hX h₁ tk ?_
    replace he₁ : Heap.ExtBut it h h₁ := he₁
    obtain ⟨on, es, ep, hon, r⟩ := S.ns
    have hiL : it ≠ env.locals := (S.obj (it, oi) (List.mem_append_right _ (.tail _ (.head _)))).2.2
    refine ⟨⟨on, es, ep, he₁ _ _ (Ne.symm hiL) hon, r⟩, fun b o x => he₁ b o ?_ (S.keep b o x), S.off, fun q hq => ?_, ?_⟩
    · rintro rfl
      have := (S.obj (b, oi) (List.mem_append_right _ (.tail _ (.head _)))).2.1
      rw [this] at x; cases x
    · have y := S.obj q (List.mem_append_left _ hq)
      have ap := S.apart
      rw [List.map_append] at ap
      have ap := (List.nodup_append.mp ap).2.2 q.1 (List.mem_map_of_mem hq)
      exact ⟨he₁ _ _ (ap it (.tail _ (.head _))) y.1, y.2⟩
    · exact S.drop.apart

/-- what the generator yields from its i-th sign on -/
def toksFrom (i : Nat) (esc : Bool) : List Nat → List (Nat × List Nat)
  | [] => if esc = true then [(i - 1, [92])] else []
  | c :: r => if esc = true then (i, [92, c]) :: toksFrom (i + 1) false r else if c = 92 then toksFrom (i + 1) true r else (i, [c]) :: toksFrom (i + 1) false r

/-- all but some objects are kept -/
def KeepBut (l : List Addr) (h h' : Heap) : Prop := ∀ b o, b ∉ l → h.get? b = some o → h'.get? b = some o
theorem KeepBut.trans {l : List Addr} {a b c : Heap} (x : KeepBut l a b) (y : KeepBut l b c) : KeepBut l a c := fun q o hq e => y q o hq (x q o hq e)

/-- the generator waits: woken, it hands out the next of T, its private objects aside nothing changes -/
def Rdy (w : World) (A : Around) (gi : Nat) (g₀ : Heap) : List (Nat × List Nat) → List (Addr × Obj) → GenState → Prop
  | [], priv, gs => ∀ (h : Heap) (gens : Array GenState) (d : Drawn) (tk : Nat) (os : OsState) (l : List Value) (α : Type) (k : GenResult → Sem α) (Q : α → Shared → Prop) (E : Value → Shared → Prop),
      gens[gi]? = some gs → Le g₀ h → (∀ q ∈ priv, h.get? q.1 = some q.2) →
      (∀ h' tk', KeepBut (priv.map (·.1)) h h' → wpAny (model PG w) A (k (.returned .none)) Q E ⟨h', gens.setIfInBounds gi .finished, d, tk', os⟩) →
      wpAny (model PG w) A (.resume gi (.send .none) l k) Q E ⟨h, gens, d, tk, os⟩
  | (pos, cs) :: T, priv, gs => ∀ (h : Heap) (gens : Array GenState) (d : Drawn) (tk : Nat) (os : OsState) (l : List Value) (α : Type) (k : GenResult → Sem α) (Q : α → Shared → Prop) (E : Value → Shared → Prop),
      gens[gi]? = some gs → Le g₀ h → (∀ q ∈ priv, h.get? q.1 = some q.2) →
      (∀ h' tk' t u1 u2 priv' gs', KeepBut (priv.map (·.1)) h h' → (∀ q ∈ priv', h'.get? q.1 = some q.2 ∧ (q.1 ∈ priv.map (·.1) ∨ h.get? q.1 = none)) → (priv'.map (·.1)).Nodup →
        IsTup h' t [.int (pos : Nat) u1, .str (mkS cs) u2].toArray → (∃ k l c p fs, gs' = GenState.suspended k l c p fs false) → Rdy w A gi g₀ T priv' gs' →
        wpAny (model PG w) A (k (.yielded (.ref t))) Q E ⟨h', gens.setIfInBounds gi gs', d, tk', os⟩) →
      wpAny (model PG w) A (.resume gi (.send .none) l k) Q E ⟨h, gens, d, tk, os⟩

/-- what the segment's end must bear -/
def Psp (w : World) (A : Around) (gi : Nat) (g₀ : Heap) (T : List (Nat × List Nat)) (pa : List Addr) (h : Heap) (gens : Array GenState) (d : Drawn) (os : OsState) (P : End → Shared → Prop) : Prop := match T with
  | [] => ∀ h' tk', KeepBut pa h h' → P (.ret (.ok (.ret .none))) ⟨h', gens, d, tk', os⟩
  | (pos, cs) :: T => ∀ h' tk' t u1 u2 priv' l k c p fs, KeepBut pa h h' → (∀ q ∈ priv', h'.get? q.1 = some q.2 ∧ (q.1 ∈ pa ∨ h.get? q.1 = none)) → (priv'.map (·.1)).Nodup →
        IsTup h' t [.int (pos : Nat) u1, .str (mkS cs) u2].toArray → fs.any Frame.guarded = false → Rdy w A gi g₀ T priv' (.suspended k l c p fs false) →
        P (.susp (.ref t) false l k c p fs) ⟨h', gens, d, tk', os⟩

theorem rdy_wake {w : World} {A : Around} {gi : Nat} {g₀ : Heap} {T : List (Nat × List Nat)} {priv : List (Addr × Obj)} {gs : GenState} {c : Code} {t₀ : Sem PySem.Fin} {fs : List Frame}
    (hgs : (gs = .fresh c ∧ t₀ = denote table c ∧ fs = []) ∨ (∃ k₀ l₀ p₀ cl, gs = .suspended k₀ l₀ c p₀ fs cl ∧ t₀ = k₀ (.send .none)))
    (x : ∀ h gens d tk os P, Le g₀ h → (∀ q ∈ priv, h.get? q.1 = some q.2) → Psp w A gi g₀ T (priv.map (·.1)) h gens d os P → SegX (model PG w) A c t₀ fs ⟨h, gens, d, tk, os⟩ P) : Rdy w A gi g₀ T priv gs := by
  have hgs' : (gs = .fresh c ∧ Resume.send Value.none = Resume.send Value.none ∧ t₀ = denote table c ∧ fs = []) ∨ (∃ k₀ l₀ p₀ cl, gs = .suspended k₀ l₀ c p₀ fs cl ∧ t₀ = k₀ (.send .none)) :=
    hgs.imp (fun ⟨a, b, c⟩ => ⟨a, rfl, b, c⟩) id
  have two : ∀ (gens : Array GenState) (a b : GenState), (gens.setIfInBounds gi a).setIfInBounds gi b = gens.setIfInBounds gi b := fun gens a b => by
    apply Array.ext'
    simp
  cases T with
  | nil =>
    intro h gens d tk os l α k Q E hg hl hp hk
    refine fun Γ p hΓ => wake_any (s := ⟨h, gens, d, tk, os⟩) (g := gi) (Q := Q) (E := E) (k := k) (l := l) α PG w hg hgs' (fun Γ => Γ.In A) (fun _ h => h) (x h (gens.setIfInBounds gi .running) d tk os _ hl hp ?_) Γ p hΓ
    intro h' tk' hkb Γ p hΓ
    show Sem.wp _ _ (k (.returned .none)) _ _ _ ⟨h', (gens.setIfInBounds gi .running).setIfInBounds gi .finished, d, tk', os⟩
    rw [two]
    exact hk h' tk' hkb Γ p hΓ
  | cons tok T =>
    obtain ⟨pos, cs⟩ := tok
    intro h gens d tk os l α k Q E hg hl hp hk
    refine fun Γ p hΓ => wake_any (s := ⟨h, gens, d, tk, os⟩) (g := gi) (Q := Q) (E := E) (k := k) (l := l) α PG w hg hgs' (fun Γ => Γ.In A) (fun _ h => h) (x h (gens.setIfInBounds gi .running) d tk os _ hl hp ?_) Γ p hΓ
    intro h' tk' t u1 u2 priv' l' k' c' p' fs' h1 h2 h3 h4 h7 h8 Γ p hΓ
    show Sem.wp _ _ (k (.yielded (.ref t))) _ _ _ ⟨h', (gens.setIfInBounds gi .running).setIfInBounds gi (.suspended k' l' c' p' fs' (false || fs'.any Frame.guarded)), d, tk', os⟩
    rw [two, h7, Bool.or_false]
    exact hk h' tk' t u1 u2 priv' _ h1 h2 h3 h4 ⟨_, _, _, _, _, rfl⟩ h8 Γ p hΓ

theorem Psp.mono {w : World} {A : Around} {gi : Nat} {g₀ : Heap} {T : List (Nat × List Nat)} {pa pa' : List Addr} {h₀ h : Heap} {gens : Array GenState} {d : Drawn} {os : OsState} {P : End → Shared → Prop}
    (x : Psp w A gi g₀ T pa h₀ gens d os P) (hk : KeepBut pa h₀ h) (hn : ∀ a ∈ pa', a ∈ pa ∨ h₀.get? a = none) : Psp w A gi g₀ T pa' h gens d os P := by
  have kb : ∀ {h'}, KeepBut pa' h h' → KeepBut pa h₀ h' := fun hx b o hb e => hx b o (fun hm => (hn b hm).elim hb fun q => by rw [q] at e; cases e) (hk b o hb e)
  have nw : ∀ {q : Addr × Obj}, (q.1 ∈ pa' ∨ h.get? q.1 = none) → (q.1 ∈ pa ∨ h₀.get? q.1 = none) := fun {q} hq => by
    rcases hq with hq | hq
    · exact hn _ hq
    · by_cases hp : q.1 ∈ pa
      · exact .inl hp
      · refine .inr ?_
        cases z : h₀.get? q.1 with
        | none => rfl
        | some o => have := hk _ _ hp z; rw [hq] at this; cases this
  cases T with
  | nil => exact fun h' tk' hx => x h' tk' (kb hx)
  | cons tok T =>
    obtain ⟨pos, cs⟩ := tok
    exact fun h' tk' t u1 u2 priv' l k c p fs h1 h2 h3 h4 h5 h6 => x h' tk' t u1 u2 priv' l k c p fs (kb h1) (fun q hq => ⟨(h2 q hq).1, nw (h2 q hq).2⟩) h3 h4 h5 h6
end Mine
end
section
open PySem PySem.W PySem.W.X PySem.Calls PyProof.Rows
set_option maxRecDepth 10000
namespace Mine

def genFor : Stmt := ((dB 1)[2]?).getD (.Pass ⟨0, 0, 0, 0⟩)
def genTarget : Expr := match genFor with | .For t _ _ _ _ => t | _ => .Name "x" ⟨0, 0, 0, 0⟩
def genLoopBody : List Stmt := match genFor with | .For _ _ b _ _ => b | _ => []
abbrev genEnv (L : Addr) : Env := envAt (fdI 1 (.str "cpy313.email.utils" 187) (.ref 20)) L 21
abbrev genLoop (L e : Addr) : Code := .forLoop genTarget (.ref e) genLoopBody [] (genEnv L)
abbrev genFn (L : Addr) : Code := .func (dB 1) (genEnv L)

theorem fine_over1 {A : Around} {n : Nat} (F : Fine A (n + 2)) {L : Addr} {e : Addr} {kf : Result → Sem PySem.Fin} {l : List Value} {p : Pos} : Fine (A.over (genLoop L e) [.ret kf none false l (genFn L) p []]) n := by
  refine ⟨F.handled, ?_, ?_⟩
  · show A.depth + (1 + 0) + 0 + n < _
    have := F.depth; omega
  · show A.units + (3 + 0) + 0 + 8 * n < _
    have := F.units; omega
theorem fine_over0 {A : Around} {n : Nat} (F : Fine A (n + 2)) {L : Addr} : Fine (A.over (genFn L) []) n := by
  refine ⟨F.handled, ?_, ?_⟩
  · show A.depth + 0 + 1 + n < _
    have := F.depth; omega
  · show A.units + 0 + 3 + 8 * n < _
    have := F.units; omega

theorem St.alone {L : Addr} {m : Str → Option Value} {par : List (Addr × Obj)} {h : Heap} (ns : h.Ns L m) (obj : ∀ q ∈ par, h.get? q.1 = some q.2 ∧ q.1 ≠ L) (nd : (par.map (·.1)).Nodup) : St (Mine.frz h L par) L m par h :=
  ⟨ns, fun _ _ e => of_hideAll _ e, hideAll_none _ (.head _), fun p hp => ⟨(obj p hp).1, hideAll_none _ (.tail _ (List.mem_map_of_mem hp)), (obj p hp).2⟩, nd⟩
theorem keep_frz {h h' : Heap} {L : Addr} {par : List (Addr × Obj)} (k : Le (frz h L par) h') : KeepBut (L :: par.map (·.1)) h h' := fun b o hb e => k b o (hideAll_get _ e hb)

structure GS (x : Str) (t : Tok) (L e it : Addr) (h : Heap) (i : Nat) (esc : Bool) (m : Str → Option Value) (par : List (Addr × Obj)) : Prop where
  ns : h.Ns L m
  hpar : enumParS e it x t i par
  obj : ∀ q ∈ par, h.get? q.1 = some q.2 ∧ q.1 ≠ L
  nd : (par.map (·.1)).Nodup
  hesc : m "escape" = some (.bool esc)
  hpos : ∃ tp, m "pos" = some (.int ((i - 1 : Nat) : Int) tp)
theorem enumParS.keys {e it : Addr} {x : Str} {t : Tok} {i : Nat} {p : List (Addr × Obj)} (h : enumParS e it x t i p) : p.map (·.1) = [e, it] := by
  obtain ⟨old, oi, rfl, _⟩ := h; rfl

theorem GS.priv {x : Str} {t : Tok} {L e it : Addr} {h : Heap} {i : Nat} {esc : Bool} {m : Str → Option Value} {par : List (Addr × Obj)} (G : GS x t L e it h i esc m par) :
    ∃ oL, h.get? L = some oL ∧ ∀ h2 : Heap, (∀ q ∈ (L, oL) :: par, h2.get? q.1 = some q.2) → GS x t L e it h2 i esc m par := by
  obtain ⟨oL, es, ep, ho, r⟩ := G.ns
  exact ⟨oL, ho, fun h2 hq => ⟨⟨oL, es, ep, hq _ (.head _), r⟩, G.hpar, fun q hm => ⟨hq q (.tail _ hm), (G.obj q hm).2⟩, G.nd, G.hesc, G.hpos⟩⟩

theorem gen_iter {w : World} {A : Around} {L e it : Addr} {g₀ : Heap} {x : Str} {t : Tok} (hh : A.handled = none) : Iter w A (genEnv L) genTarget (.ref e) g₀ x.cps.size (enumParS e it x t) (enumPutS x "pos" "ch") :=
  iter_enumS hh rfl rfl rfl

set_option maxHeartbeats 4000000 in
theorem gen_loop {w : World} {A : Around} (F : Fine A 8) {gi : Nat} {g₀ : Heap} {x : Str} {t : Tok} {L e it : Addr} {kf : Result → Sem PySem.Fin} {l : List Value} {p : Pos}
    (tail : ∀ h gens d tk os P esc i m, h.Ns L m → m "escape" = some (.bool esc) → (∃ tp, m "pos" = some (.int ((i - 1 : Nat) : Int) tp)) → Psp w A gi g₀ (toksFrom i esc []) [L, e, it] h gens d os P →
      SegX (model PG w) A (genFn L) (kf (.ok .next)) [] ⟨h, gens, d, tk, os⟩ P) :
    ∀ (cs : List Nat) (i : Nat) (esc : Bool), x.cps.toList.drop i = cs → i ≤ x.cps.size → ∀ (h : Heap) (m : Str → Option Value) (par : List (Addr × Obj)) (gens : Array GenState) (d : Drawn) (tk : Nat) (os : OsState) (P : End → Shared → Prop),
      GS x t L e it h i esc m par → Psp w A gi g₀ (toksFrom i esc cs) [L, e, it] h gens d os P →
      SegX (model PG w) A (genLoop L e) (denote table (genLoop L e)) [.ret kf none false l (genFn L) p []] ⟨h, gens, d, tk, os⟩ P := by
  intro cs
  induction cs with
  | nil =>
    intro i esc hcs hi h m par gens d tk os P G hP
    have hn : i = x.cps.size := by
      have := congrArg List.length hcs
      simp at this; omega
    subst hn
    have F1 := fine_over1 (n := 6) F (L := L) (e := e) (kf := kf) (l := l) (p := p)
    have S := St.alone G.ns G.obj G.nd
    refine sx_forLoop fun HL => (gen_iter (g₀ := frz h L par) F1.handled).stop (own := []) (Le.refl _) G.hpar S fun h' tk' S' => ?_
    refine s_pop PG w A _ [] P _ (.ok .next) _ rfl kf none false l (genFn L) p [] ?_
    have kb := keep_frz S'.keep
    rw [G.hpar.keys] at kb
    exact tail h' gens d tk' os P esc _ m S'.ns G.hesc G.hpos (hP.mono kb fun a ha => .inl ha)
  | cons c r ih =>
    intro i esc hcs hi h m par gens d tk os P G hP
    have hlt : i < x.cps.size := by
      have := congrArg List.length hcs
      simp at this; omega
    have hc : x.cps[i]? = some c := by
      have := congrArg (·[0]?) hcs
      simpa [List.getElem?_drop] using this
    have hr : x.cps.toList.drop (i + 1) = r := by
      rw [← List.drop_drop, hcs]; rfl
    have F1 := fine_over1 (n := 6) F (L := L) (e := e) (kf := kf) (l := l) (p := p)
    have S := St.alone G.ns G.obj G.nd
    refine sx_forLoop fun HL => (gen_iter (g₀ := frz h L par) F1.handled).item (own := []) hlt (Le.refl _) G.hpar S fun par' m' own' h' tk' hp' hput S' => ?_
    obtain ⟨rfl, c', u, tok, hc', rfl⟩ := hput
    obtain rfl : c' = c := by rw [hc] at hc'; exact (Option.some.inj hc').symm
    have kb := keep_frz S'.keep
    rw [G.hpar.keys] at kb
    -- the next turn, from a heap where the private objects lie
    have again : ∀ (esc' : Bool) (h₂ : Heap) (m₂ : Str → Option Value) gens d tk os P, h₂.Ns L m₂ → (∀ q ∈ par', h₂.get? q.1 = some q.2 ∧ q.1 ≠ L) → m₂ "escape" = some (.bool esc') → (∃ tp, m₂ "pos" = some (.int (i : Int) tp)) →
        Psp w A gi g₀ (toksFrom (i + 1) esc' r) [L, e, it] h₂ gens d os P → SegX (model PG w) A (genLoop L e) (.pure (.again (genLoop L e))) [.ret kf none false l (genFn L) p []] ⟨h₂, gens, d, tk, os⟩ P := by
      intro esc' h₂ m₂ gens d tk os P hn ho he hps hPs
      refine s_again PG w A _ _ P _ (genLoop L e) rfl ?_
      exact ih (i + 1) esc' hr hlt h₂ m₂ par' gens d tk os P ⟨hn, hp', ho, (by rw [hp'.keys, ← G.hpar.keys]; exact G.nd), he, by simpa using hps⟩ hPs
    have S' : St (frz h L par) L (fun y => if y = "ch" then some (.str ⟨#[c']⟩ u) else if y = "pos" then some (.int (i : Int) tok) else m y) par' h' := S'
    have ob' : ∀ q ∈ par', q.1 ≠ L := fun q hq => (S'.obj q hq).2.2
    have nd' : (L :: par'.map (·.1)).Nodup := List.nodup_cons.mpr ⟨fun hm => by obtain ⟨q, hq, z⟩ := List.mem_map.mp hm; exact ob' q hq z, S'.apart⟩
    have bs : (⟨#[c']⟩ : Str) = Str.ofString "\\" ↔ c' = 92 := by
      rw [show Str.ofString "\\" = ⟨#[92]⟩ from by decide]
      simp
    -- the end of a turn that yields
    have yields : ∀ (cs : List Nat) (o : Obj) (u1 u2 : Tok) (tk₁ : Nat) (k : Resume → Sem PySem.Fin) (l' : List Value) (p' : Pos), o = { cls := .type "tuple", data := .seq [Value.int (i : Int) u1, Value.str (mkS cs) u2].toArray } →
        toksFrom i esc (c' :: r) = (i, cs) :: toksFrom (i + 1) false r →
        (∀ h₂ gens₂ d₂ tk₂ os₂ P₂, h₂.Ns L (fun y => if y = "ch" then some (.str ⟨#[c']⟩ u) else if y = "pos" then some (.int (i : Int) tok) else m y) → (∀ q ∈ par', h₂.get? q.1 = some q.2 ∧ q.1 ≠ L) →
          Psp w A gi g₀ (toksFrom (i + 1) false r) [L, e, it] h₂ gens₂ d₂ os₂ P₂ → SegX (model PG w) A (genLoop L e) (k (.send .none)) [.ret kf none false l (genFn L) p []] ⟨h₂, gens₂, d₂, tk₂, os₂⟩ P₂) →
        P (.susp (.ref h'.objs.size) false l' k (genLoop L e) p' [.ret kf none false l (genFn L) p []]) ⟨h'.push o, gens, d, tk₁, os⟩ := by
      intro cs o u1 u2 tk₁ k l' p' ho htk hk
      rw [htk] at hP
      obtain ⟨oL, es, ep, hoL, rL⟩ := S'.ns
      refine hP (h'.push o) tk₁ h'.objs.size u1 u2 ((L, oL) :: par') l' k _ p' _ (fun b ob hb e => Heap.get?_push_of_some _ (kb b ob hb e)) (fun q hq => ?_) nd' ⟨o, Heap.get?_push_size _ (by rw [ho]; rfl), by rw [ho], 0, by rw [ho]⟩ rfl ?_
      · rcases List.mem_cons.mp hq with rfl | hq
        · exact ⟨Heap.get?_push_of_some _ hoL, .inl (.head _)⟩
        · refine ⟨Heap.get?_push_of_some _ (S'.obj q hq).1, .inl (.tail _ ?_)⟩
          rw [← hp'.keys]; exact List.mem_map_of_mem hq
      · refine rdy_wake (.inr ⟨k, l', p', false, rfl, rfl⟩) fun h₂ gens₂ d₂ tk₂ os₂ P₂ _ hpr hPs => ?_
        refine hk h₂ gens₂ d₂ tk₂ os₂ P₂ ⟨oL, es, ep, hpr _ (.head _), rL⟩ (fun q hq => ⟨hpr q (.tail _ hq), ob' q hq⟩) ?_
        rw [List.map_cons, hp'.keys] at hPs
        exact hPs
    refine sx_execs_cons (sx_If (wpAny_isTrue_value (nm S' G.hesc (wpAny_truthy_bool ?_))))
    cases esc with
    | true =>
      rw [if_pos rfl]
      refine sx_execs_cons (sx_Yield rfl rfl rfl (wpAny_Tuple (wpAny_items_cons (nm S' rfl (wpAny_items_cons (wpAny_BinOp (wpAny_Constant_str (nm S' rfl (SB.add (fun t' k => wpAny_items_nil ?_) ?_)))))))))
      · refine ⟨by rw [sizeLine_eq]; simp, fun l' k' p' hk => ?_⟩
        refine yields [92, c'] _ tok t' _ k' l' p' ?_ rfl fun h₂ gens₂ d₂ tk₂ os₂ P₂ hn ho hPs => hk _ _ ?_
        · rw [show (Str.ofString "\\" ++ ⟨#[c']⟩ : Str) = mkS [92, c'] from Str.ext' (by rw [show Str.ofString "\\" = ⟨#[92]⟩ from by decide]; rfl)]
        · have S₂ := St.alone hn ho S'.apart
          refine sx_execs_cons (sx_wrap (wpAny_Assign_Name (wpAny_Constant_bool (sn S₂ fun h₃ S₃ => ?_))))
          have kb₃ := keep_frz S₃.keep
          rw [hp'.keys] at kb₃
          exact again false h₃ _ gens₂ d₂ _ os₂ P₂ S₃.ns (fun q hq => ⟨(S₃.obj q hq).1, ob' q hq⟩) rfl ⟨tok, rfl⟩ (hPs.mono kb₃ fun a ha => .inl ha)
      · rw [show (Str.ofString "\\").length = 1 from by decide, sizeLine_eq]
        show 1 + 1 ≤ 16777216
        decide
    | false =>
      rw [if_neg (by simp)]
      refine sx_execs_cons (sx_If (wpAny_isTrue_Compare1 (nm S' rfl (wpAny_Constant_str (eqS (wpAny_truthy_bool ?_))))))
      by_cases h92 : c' = 92
      · rw [if_pos (decide_eq_true (bs.mpr h92))]
        refine sx_execs_cons (sx_wrap (wpAny_Assign_Name (wpAny_Constant_bool (sn S' fun h₃ S₃ => ?_))))
        have kb₃ := keep_frz S₃.keep
        rw [G.hpar.keys] at kb₃
        have htk : toksFrom i false (c' :: r) = toksFrom (i + 1) true r := by simp [toksFrom, h92]
        rw [htk] at hP
        exact again true h₃ _ gens d _ os P S₃.ns (fun q hq => ⟨(S₃.obj q hq).1, ob' q hq⟩) rfl ⟨tok, rfl⟩ (hP.mono kb₃ fun a ha => .inl ha)
      · rw [if_neg (by rw [decide_eq_true_eq]; exact fun z => h92 (bs.mp z))]
        refine sx_execs_cons (sx_Yield rfl rfl rfl (wpAny_Tuple (wpAny_items_cons (nm S' rfl (wpAny_items_cons (nm S' rfl (wpAny_items_nil ?_)))))))
        refine ⟨by rw [sizeLine_eq]; simp, fun l' k' p' hk => ?_⟩
        refine yields [c'] _ tok u _ k' l' p' rfl (by simp [toksFrom, h92]) fun h₂ gens₂ d₂ tk₂ os₂ P₂ hn ho hPs => hk _ _ ?_
        exact again false h₂ _ gens₂ d₂ _ os₂ P₂ hn ho G.hesc ⟨tok, rfl⟩ hPs

set_option maxHeartbeats 4000000 in
theorem gen_fresh {w : World} {mg mb : Str → Option Value} {A : Around} (F : Fine A 10) {gi : Nat} {g₀ : Heap} (B : Bas w mg mb g₀) {x : Str} {t : Tok} {L : Addr} {oL : Obj} (hL : g₀.get? L = none) {m : Str → Option Value}
    (hm : m "addr" = some (.str x t)) (hns : ∀ h : Heap, h.get? L = some oL → h.Ns L m) : Rdy w A gi g₀ (toksFrom 0 false x.cps.toList) [(L, oL)] (.fresh (genFn L)) := by
  refine rdy_wake (.inl ⟨rfl, rfl, rfl⟩) fun h gens d tk os P hle hpr hPs => sx_func fun HF => ?_
  have F0 := fine_over0 (n := 8) F (L := L)
  have S := St.alone (par := []) (hns h (hpr _ (.head _))) (fun _ hq => nomatch hq) List.nodup_nil
  have hleg : Le g₀ (frz h L []) := fun b o e => hideAll_get _ (hle b o e) fun hm => by
    rcases List.mem_singleton.mp hm with rfl
    rw [hL] at e; cases e
  refine sx_execs_cons (sx_wrap (wpAny_Assign_Name (wpAny_Constant_int (sn S fun h₁ S₁ => ?_))))
  refine sx_execs_cons (sx_wrap (wpAny_Assign_Name (wpAny_Constant_bool (sn S₁ fun h₂ S₂ => ?_))))
  dsimp only at S₁ S₂ ⊢
  refine sx_execs_cons (sx_For rfl (wpAny_Call_NameR (bn (B.keeps hleg) S₂ rfl boot_enumerate (callWith_type1 (wpAny_items_cons (nm S₂ hm (wpAny_items_nil ?_)))))))
  refine call_enumerate_str (s := ⟨h₂, _, _, _, _⟩) fun h₃ he hit hz hk => ?_
  dsimp only at he hit hz hk ⊢
  refine wpAny_pyIter_enum (s := ⟨h₃, _, _, _, _⟩) he fun p kf l hkf => ?_
  obtain ⟨oi, hoi, hoc, hod⟩ := hit
  have S₃ := S₂.grows (new := [(h₂.objs.size + 1, { cls := .type "enumerate", dict := none, data := .fields #[.none, .bool false, .ref h₂.objs.size, rawInt 0, .none, .none], slots := #[] }), (h₂.objs.size, oi)]) hk
    (fun p hp => by
      rcases List.mem_cons.mp hp with rfl | hp
      · exact ⟨he, Nat.le_succ _⟩
      · rcases List.mem_singleton.mp hp with rfl
        exact ⟨hoi, Nat.le_refl _⟩)
    (by simp)
  have kb := keep_frz S₃.keep
  have nw : ∀ a, h₂.objs.size ≤ a → a ∈ [L] ∨ h.get? a = none := fun a ha => by
    by_cases hal : a = L
    · exact .inl (by simp [hal])
    · refine .inr ?_
      cases z : h.get? a with
      | none => rfl
      | some o => exact absurd (Heap.lt_size (S₂.keep a o (hideAll_get _ z (by simpa using hal)))) (Nat.not_lt.mpr ha)
  refine gen_loop (it := h₂.objs.size) (x := x) (t := t) (g₀ := g₀) (gi := gi) (Fine.less (Fine.less F)) ?_ x.cps.toList 0 false (by simp) (Nat.zero_le _) h₃ _ _ gens d _ os P
    ⟨S₃.ns, ⟨.none, oi, rfl, hoc, hod⟩, fun q hq => ⟨(S₃.obj q hq).1, (S₃.obj q hq).2.2⟩, S₃.apart, rfl, ⟨_, rfl⟩⟩ (hPs.mono kb fun a ha => ?_)
  · intro h gens d tk os P esc i m hns hesc hpos hP
    refine hkf _ _ ?_
    have S := St.alone (par := []) hns (fun _ hq => nomatch hq) List.nodup_nil
    refine sx_execs_cons (sx_If (wpAny_isTrue_value (nm S hesc (wpAny_truthy_bool ?_))))
    cases esc with
    | false =>
      rw [if_neg (by simp)]
      exact s_end PG w A _ P _ (.ok (.ret .none)) _ rfl (hP h tk fun _ _ _ e => e)
    | true =>
      rw [if_pos rfl]
      obtain ⟨tp, hpos⟩ := hpos
      refine sx_execs_cons (sx_Yield rfl rfl rfl (wpAny_Tuple (wpAny_items_cons (nm S hpos (wpAny_items_cons (wpAny_Constant_str (wpAny_items_nil ?_)))))))
      refine ⟨by rw [sizeLine_eq]; simp, fun l' k' p' hk => ?_⟩
      refine hP _ _ h.objs.size tp tk [] l' k' _ p' _ (fun b o _ e => Heap.get?_push_of_some _ e) (fun _ hq => nomatch hq) List.nodup_nil ⟨_, Heap.get?_push_size _ rfl, rfl, 0, ?_⟩ rfl ?_
      · rw [show mkS [92] = Str.ofString "\\" from by decide]
      · refine rdy_wake (.inr ⟨k', l', p', false, rfl, rfl⟩) fun h₂ gens₂ d₂ tk₂ os₂ P₂ _ _ hPs => hk _ _ ?_
        exact s_end PG w A _ P₂ _ (.ok (.ret .none)) _ rfl (hPs h₂ tk₂ fun _ _ _ e => e)
  · rcases List.mem_cons.mp ha with rfl | ha
    · exact .inl (.head _)
    · rcases List.mem_cons.mp ha with rfl | ha
      · exact nw _ (Nat.le_succ _)
      · rcases List.mem_singleton.mp ha with rfl
        exact nw _ (Nat.le_refl _)
end Mine
end
section
open PySem PySem.W PySem.W.X PySem.Calls PyProof.Rows
set_option maxRecDepth 10000
namespace Mine

theorem next_gen {w : World} {A : Around} {E : Value → Shared → Prop} {h : Heap} {gens : Array GenState} {d : Drawn} {tk : Nat} {os : OsState} {a : Addr} {gi : Nat} {g₀ : Heap} {T : List (Nat × List Nat)} {priv : List (Addr × Obj)} {gs : GenState} {Q : Option Value → Shared → Prop}
    (hh : A.handled = none) (lim : h.NoLimit) (hroom : A.depth < recursionLimit) (hg : h.IsGen a gi) (hgs : gens[gi]? = some gs) (hst : gs ≠ .running ∧ gs ≠ .finished) (R : Rdy w A.in1 gi g₀ T priv gs) (hle : Le g₀ h) (hpr : ∀ q ∈ priv, h.get? q.1 = some q.2)
    (hN : T = [] → ∀ h' tk', KeepBut (priv.map (·.1)) h h' → Q none ⟨h', gens.setIfInBounds gi .finished, d, tk', os⟩)
    (hS : ∀ pos cs T', T = (pos, cs) :: T' → ∀ h' tk' t u1 u2 priv' gs', KeepBut (priv.map (·.1)) h h' → (∀ q ∈ priv', h'.get? q.1 = some q.2 ∧ (q.1 ∈ priv.map (·.1) ∨ h.get? q.1 = none)) → (priv'.map (·.1)).Nodup →
        IsTup h' t [.int (pos : Nat) u1, .str (mkS cs) u2].toArray → (∃ k l c p fs, gs' = GenState.suspended k l c p fs false) → Rdy w A.in1 gi g₀ T' priv' gs' → Q (some (.ref t)) ⟨h', gens.setIfInBounds gi gs', d, tk', os⟩) :
    wpAny (model PG w) A (pyNext (.ref a)) Q E ⟨h, gens, d, tk, os⟩ := by
  unfold pyNext
  refine wpAny_bind (wpAny_attempt (wpAny_callSpecial?_slot (name := Str.ofString "__next__") (Heap.IsGen.typeIs (s := ⟨h, gens, d, tk, os⟩) hg) slot_gen_next
    (wpAny_call_entry slot_gen_next (Heap.IsGen.typeIs (s := ⟨h, gens, d, tk, os⟩) hg) entry_gen_next ?_ (args_gen_next _))))
  show wpAny _ _ (Builtin.Generator.genWake (.ref a) (.send .none)) _ _ ⟨h, gens, d, tk, os⟩
  unfold Builtin.Generator.genWake
  refine wpAny_bind (wpAny_holding (wpAny_genNumber (s := ⟨h, gens, d, tk, os⟩) hg (wpAny_bind (wpAny_genState hgs ?_))))
  have go : ∀ (k : GenResult → Sem PySem.Fin) (Q' : PySem.Fin → Shared → Prop) (E' : Value → Shared → Prop),
      (T = [] → ∀ h' tk', KeepBut (priv.map (·.1)) h h' → wpAny (model PG w) A.in1 (k (.returned .none)) Q' E' ⟨h', gens.setIfInBounds gi .finished, d, tk', os⟩) →
      (∀ pos cs T', T = (pos, cs) :: T' → ∀ h' tk' t u1 u2 priv' gs', KeepBut (priv.map (·.1)) h h' → (∀ q ∈ priv', h'.get? q.1 = some q.2 ∧ (q.1 ∈ priv.map (·.1) ∨ h.get? q.1 = none)) → (priv'.map (·.1)).Nodup →
        IsTup h' t [.int (pos : Nat) u1, .str (mkS cs) u2].toArray → (∃ k l c p fs, gs' = GenState.suspended k l c p fs false) → Rdy w A.in1 gi g₀ T' priv' gs' → wpAny (model PG w) A.in1 (k (.yielded (.ref t))) Q' E' ⟨h', gens.setIfInBounds gi gs', d, tk', os⟩) →
      wpAny (model PG w) A.in1 (.resume gi (.send .none) [] k) Q' E' ⟨h, gens, d, tk, os⟩ := by
    intro k Q' E' h1 h2
    cases T with
    | nil => exact R h gens d tk os [] _ k Q' E' hgs hle hpr (h1 rfl)
    | cons tok T =>
      obtain ⟨pos, cs⟩ := tok
      exact R h gens d tk os [] _ k Q' E' hgs hle hpr (h2 pos cs T rfl)
  cases gs with
  | running => exact absurd rfl hst.1
  | finished => exact absurd rfl hst.2
  | _ =>
    refine wpAny_bind (wpAny_roomToWake (s := ⟨h, gens, d, tk, os⟩) lim hroom ?_)
    refine go _ _ _ (fun hT h' tk' hk => ?_) (fun pos cs T' hT h' tk' t u1 u2 priv' gs' h1 h2 h3 h4 h5 h6 => ?_)
    · show wpAny _ _ (newExc (.type "StopIteration") [] >>= _) _ _ _
      refine wpAny_bind ?_
      simp only [newExc, newTuple]
      refine wpAny_bind (wpAny_newObj_type ?_ (by size_fits))
      refine wpAny_bind (m := firstArgMember _ _) (wpAny_of_eq (a := Value.none) (by first | rfl | (simp only [firstArgMember]; rfl)) ?_)
      refine wpAny_newObj_type ?_ (by size_fits)
      simp only [raiseNew]
      refine wpAny_bind (wpAny_bind (wpAny_handled ?_))
      rw [show A.in1.handled = none from hh]
      first
        | refine wpAny_throw ?_
        | refine wpAny_bind (wpAny_pure (wpAny_throw ?_))
      refine wpAny_bind (wpAny_isInstance (T := "StopIteration") (b := true) ⟨_, Heap.get?_push_size _ rfl, rfl⟩ isSubtype_stop ?_)
      exact wpAny_pure (hN hT _ tk' fun b o hb e => Heap.get?_push_of_some _ (Heap.get?_push_of_some _ (hk b o hb e)))
    · exact wpAny_pure ⟨_, rfl, wpAny_pure (hS pos cs T' hT h' tk' t u1 u2 priv' gs' h1 h2 h3 h4 h5 h6)⟩

theorem St.keepBut {g : Heap} {L : Addr} {m : Str → Option Value} {own rest : List (Addr × Obj)} {h h' : Heap} (S : St g L m (own ++ rest) h) (k : KeepBut (rest.map (·.1)) h h') : St g L m own h' := by
  have nm : ∀ b ob, g.get? b = some ob → b ∉ rest.map (·.1) := fun b ob e hm => by
    obtain ⟨q, hq, rfl⟩ := List.mem_map.mp hm
    have := (S.obj q (List.mem_append_right _ hq)).2.1
    rw [this] at e; cases e
  have ap := S.apart
  rw [List.map_append] at ap
  obtain ⟨ap1, ap2, ap3⟩ := List.nodup_append.mp ap
  obtain ⟨on, es, ep, hon, r⟩ := S.ns
  refine ⟨⟨on, es, ep, k _ _ (fun hm => ?_) hon, r⟩, fun b o e => k b o (nm b o e) (S.keep b o e), S.off, fun q hq => ⟨k _ _ (fun hm => ap3 q.1 (List.mem_map_of_mem hq) q.1 hm rfl) (S.obj q (List.mem_append_left _ hq)).1, (S.obj q (List.mem_append_left _ hq)).2⟩, ap1⟩
  obtain ⟨q, hq, z⟩ := List.mem_map.mp hm
  exact (S.obj q (List.mem_append_right _ hq)).2.2 z
theorem St.swap {g : Heap} {L : Addr} {m : Str → Option Value} {own rest rest' : List (Addr × Obj)} {h h' : Heap} (S : St g L m (own ++ rest) h) (k : KeepBut (rest.map (·.1)) h h')
    (hr : ∀ q ∈ rest', h'.get? q.1 = some q.2 ∧ (q.1 ∈ rest.map (·.1) ∨ h.get? q.1 = none)) (nd : (rest'.map (·.1)).Nodup) : St g L m (own ++ rest') h' := by
  have S' := S.keepBut k
  have ap := S.apart
  rw [List.map_append] at ap
  obtain ⟨ap1, ap2, ap3⟩ := List.nodup_append.mp ap
  refine ⟨S'.ns, S'.keep, S'.off, fun q hq => ?_, ?_⟩
  · rcases List.mem_append.mp hq with hq | hq
    · exact S'.obj q hq
    · refine ⟨(hr q hq).1, ?_⟩
      rcases (hr q hq).2 with z | z
      · obtain ⟨q', hq', e⟩ := List.mem_map.mp z
        have := (S.obj q' (List.mem_append_right _ hq')).2
        have e' : q'.1 = q.1 := e
        rw [e'] at this
        exact this
      · refine ⟨?_, fun e => ?_⟩
        · cases y : g.get? q.1 with
          | none => rfl
          | some o => have := S.keep _ _ y; rw [z] at this; cases this
        · obtain ⟨on, es, ep, hon, r⟩ := S.ns
          rw [e, hon] at z; cases z
  · rw [List.map_append]
    refine List.nodup_append.mpr ⟨ap1, nd, fun x hx y hy e => ?_⟩
    subst e
    obtain ⟨q, hq, rfl⟩ := List.mem_map.mp hy
    obtain ⟨q0, hq0, e0⟩ := List.mem_map.mp hx
    rcases (hr q hq).2 with z | z
    · exact ap3 q.1 hx q.1 z rfl
    · have := (S.obj q0 (List.mem_append_left _ hq0)).1
      have e0' : q0.1 = q.1 := e0
      rw [e0', z] at this; cases this

abbrev genObj (gi : Nat) (n q : Value) : Obj := { cls := .type "generator", data := .fields #[.int gi 0, n, q] }

theorem call_gen {w : World} {mg mb : Str → Option Value} {A : Around} {E : Value → Shared → Prop} {g : Heap} {L : Addr} {m : Str → Option Value} {own : List (Addr × Obj)} {h : Heap} {gens : Array GenState} {d : Drawn} {tk : Nat} {os : OsState} {x : Str} {t : Tok} {Q : Value → Shared → Prop}
    (B : Bas w mg mb g) (S : St g L m own h) (hroom : A.depth < recursionLimit)
    (hQ : ∀ h' tk' a Lg oL n q m₀, St g L m (own ++ [(a, genObj gens.size n q), (Lg, oL)]) h' → m₀ "addr" = some (.str x t) → (∀ h : Heap, h.get? Lg = some oL → h.Ns Lg m₀) → Le h h' →
      Q (.ref a) ⟨h', gens.push (.fresh (genFn Lg)), d, tk', os⟩) :
    wpAny (model PG w) A (call (.ref 21) [.str x t]) Q E ⟨h, gens, d, tk, os⟩ := by
  have Bh := B.keeps S.keep
  refine wpAny_call (codeAny_call_generator (s := ⟨h, gens, d, tk, os⟩) (fd := fdI 1 (.str "cpy313.email.utils" 187) (.ref 20)) (body := dB 1) hroom (Bh.X 21 _ rfl) rfl rfl rfl rfl (codeRec_of Bh.X rfl) ?_)
  rw [show bindArgs (fdI 1 (.str "cpy313.email.utils" 187) (.ref 20)) ⟨[.str x t], []⟩ = (pure [(("addr" : Str), Value.str x t)] : Sem (List (Str × Value))) from rfl]
  refine wpAny_pure (wpAny_newFunctionEnv (show ∀ x ∈ (dS 1).names, x.2 ≠ .cell by decide) (locs rfl) (fun h₁ hns hsb => ⟨Bh.lim.fresh _ hsb, ?_⟩) rfl)
  replace hsb : Heap.SameBut h.objs.size (h.push { cls := .type "frame", data := .dict #[] }) h₁ := hsb
  have keep : Le h h₁ := fun b o e => hsb.extBut b o (Nat.ne_of_lt (Heap.lt_size e)) (Heap.get?_push_of_some _ e)
  have hz : h₁.objs.size = h.objs.size + 1 := by rw [hsb.1, Heap.size_push]
  obtain ⟨oL, es, ep, hoL, r⟩ := hns
  refine hQ (h₁.push (genObj gens.size (.str (dN 1) (tk + 1)) (.str (dN 1) (tk + 1 + 1)))) (tk + 1 + 1 + 1) h₁.objs.size h.objs.size oL (.str (dN 1) (tk + 1)) (.str (dN 1) (tk + 1 + 1)) (fun y => [(("addr" : Str), Value.str x t)].reverse.lookup y) ?_ rfl (fun h e => ⟨oL, es, ep, e, r⟩) (fun b o e => Heap.get?_push_of_some _ (keep b o e))
  refine S.grows (fun b o e => Heap.get?_push_of_some _ (keep b o e)) (fun p hp => ?_) ?_
  · rcases List.mem_cons.mp hp with rfl | hp
    · exact ⟨Heap.get?_push_size _ rfl, by rw [hz]; exact Nat.le_succ _⟩
    · rcases List.mem_singleton.mp hp with rfl
      exact ⟨Heap.get?_push_of_some _ hoL, Nat.le_refl _⟩
  · simp [hz]

theorem letOwned_gen {w : World} {A : Around} {E : Value → Shared → Prop} {s : Shared} {elts : List Expr} {x1 : Nat} {pos : Pos} {a t : Addr} {gi : Nat} {n q : Value} {Q : Unit → Shared → Prop} (ho : s.heap.get? a = some (genObj gi n q)) (h : Q () s) :
    wpAny (model PG w) A (letOwnedTupleGo (.Tuple elts x1 pos) (.ref a) (.ref t)) Q E s := by
  unfold letOwnedTupleGo
  refine wpAny_bind (wpAny_load ho ?_)
  show wpAny _ A (if (["enumerate", "zip", "dict_itemiterator", "dict_reverseitemiterator", "odict_iterator", "itertools.zip_longest", "itertools.pairwise"].contains "generator" && _) = true then _ else _) Q E s
  rw [if_neg (by simp)]
  exact wpAny_pure h

theorem push_set {α : Type} (a : Array α) (x y : α) : (a.push x).setIfInBounds a.size y = a.push y := by
  apply Array.ext'
  simp [List.set_append]

set_option maxHeartbeats 4000000 in
theorem for_gen {w : World} {mg mb : Str → Option Value} {A : Around} {env : Env} {xi xv x : Str} {pi pv pt p1 p2 p3 pos : Pos} {x1 : Nat} {body : List Stmt} {Q : Flow → Shared → Prop} {E : Value → Shared → Prop}
    {d : Drawn} {os : OsState} {g : Heap} {m : Str → Option Value} {own : List (Addr × Obj)} {h : Heap} {gens : Array GenState} {tk : Nat} {txt : Str} {tt : Tok}
    (F : Fine A 12) (B : Bas w mg mb g) (S : St g env.locals m own h) (hx : m x = some (.str txt tt))
    (J : Nat → Heap → (Str → Option Value) → List (Addr × Obj) → Prop) (hj : J 0 g m own)
    (step : ∀ (E : Value → Shared → Prop) i ps cs u1 u2 g₁ m₁ own₁ p h₁ tk₁ gs, (toksFrom 0 false txt.cps.toList)[i]? = some (ps, cs) → Le g g₁ → gs.bare = true → J i g₁ m₁ own₁ →
      St g₁ env.locals (fun y => if y = xv then some (.str (mkS cs) u2) else if y = xi then some (.int (ps : Nat) u1) else m₁ y) (own₁ ++ p) h₁ →
      wpAny (model PG w) A (execs body env) (fun f s₂ => match f with
        | .next | .cont => ∃ g' m'' own'' h' tk', s₂ = ⟨h', gens.push gs, d, tk', os⟩ ∧ Le g₁ g' ∧ St g' env.locals m'' (own'' ++ p) h' ∧ J (i + 1) g' m'' own''
        | .brk => Q .next s₂
        | .ret v => Q (.ret v) s₂) E ⟨h₁, gens.push gs, d, tk₁, os⟩)
    (done : ∀ g₁ m₁ own₁ h₁ tk₁ gs, Le g g₁ → gs.bare = true → J (toksFrom 0 false txt.cps.toList).length g₁ m₁ own₁ → St g₁ env.locals m₁ own₁ h₁ → Q .next ⟨h₁, gens.push gs, d, tk₁, os⟩)
    (hxi : env.kindOf xi = some .local := by rfl) (hxv : env.kindOf xv = some .local := by rfl) (hkx : env.kindOf x = some .local := by rfl) (hkf : env.scope.kind = .function := by rfl)
    (hgl : env.globals = mainGlobals := by rfl) (hen : env.kindOf "_iter_escaped_chars" = some .globalImplicit := by rfl) (hxd : (x == ("__debug__" : Str)) = false := by decide) :
    wpAny (model PG w) A (exec (.For (.Tuple [.Name xi pi, .Name xv pv] x1 pt) (.Call (.Name "_iter_escaped_chars" p1) [.Name x p2] [] p3) body [] pos) env) Q E ⟨h, gens, d, tk, os⟩ := by
  have hp : (env.scope.kind == .class || (env.scope.kind == .module && env.locals != env.globals)) = false := by rw [hkf]; rfl
  refine wpAny_For (wpAny_Call_NameR (gn (v := .ref 21) B S rfl (callWith_def (o := _) (fd := fdI 1 (.str "cpy313.email.utils" 187) (.ref 20)) (f := 21) rfl (wpAny_items_cons (nm S hx (wpAny_items_nil ⟨(B.keeps S.keep).X 21 _ rfl, ?_⟩) hkf hkx hxd))) hgl hkf hen))
  refine call_gen B S F.room fun h₁ tk₁ a Lg oL nv qv m₀ S₁ hm₀ hns₀ _ => ?_
  have ha₁ : h₁.get? a = some (genObj gens.size nv qv) := (S₁.obj _ (List.mem_append_right _ (.head _))).1
  refine wpAny_pyIter_gen (s := ⟨h₁, _, _, _, _⟩) (g := gens.size) ⟨_, nv, qv, ha₁, rfl, rfl, rfl⟩ ?_
  generalize hT : toksFrom 0 false txt.cps.toList = T at step done
  have R₀ : Rdy w A.in1 gens.size g T [(Lg, oL)] (.fresh (genFn Lg)) := hT ▸ gen_fresh (Fine.in1 (Fine.less F)) B ((S₁.obj (Lg, oL) (List.mem_append_right _ (.tail _ (.head _)))).2.1) hm₀ hns₀
  refine codeAny_forLoop_any
    (fun k s' => ∃ i g₁ m₁ own₁ priv gs h tk, k = T.length + 1 - i ∧ i ≤ T.length ∧ s' = ⟨h, gens.push gs, d, tk, os⟩ ∧ Le g g₁ ∧ St g₁ env.locals m₁ (own₁ ++ [(a, genObj gens.size nv qv)] ++ priv) h ∧
      Rdy w A.in1 gens.size g (T.drop i) priv gs ∧ (gs ≠ .running ∧ gs ≠ .finished) ∧ gs.bare = true ∧ J i g₁ m₁ own₁)
    ?_ (T.length + 1) ⟨0, g, m, own, [(Lg, oL)], _, h₁, tk₁, rfl, Nat.zero_le _, rfl, Le.refl _, (by rw [List.append_assoc]; exact S₁), R₀, ⟨nofun, nofun⟩, rfl, hj⟩
  rintro k s' ⟨i, g₁, m₁, own₁, priv, gs, h₂, tk₂, rfl, hi, rfl, hg, S₂, R, hst, hbare, hJ⟩
  have ha₂ : h₂.get? a = some (genObj gens.size nv qv) := (S₂.obj _ (List.mem_append_left _ (List.mem_append_right _ (.head _)))).1
  refine next_gen F.handled ((B.keeps (hg.trans S₂.keep)).lim) F.room ⟨_, nv, qv, ha₂, rfl, rfl, rfl⟩ (by simp) hst R (hg.trans S₂.keep) (fun q hq => (S₂.obj q (List.mem_append_right _ hq)).1) ?_ ?_
  · intro hnil h' tk' hk
    have hil : i = T.length := by
      have := congrArg List.length hnil
      simp at this; omega
    subst hil
    rw [push_set]
    exact wpAny_execs_nil (done g₁ m₁ own₁ h' tk' .finished hg rfl hJ (S₂.keepBut hk).drop)
  · intro ps cs T' hcons h' tk' t u1 u2 priv' gs' hk hpr nd htup hgs' R'
    have hlt : i < T.length := by
      have := congrArg List.length hcons
      simp at this; omega
    have hget : T[i]? = some (ps, cs) := by
      have := congrArg (·[0]?) hcons
      simpa [List.getElem?_drop] using this
    have hdrop : T.drop (i + 1) = T' := by rw [← List.drop_drop, hcons]; rfl
    have S₃ := S₂.swap hk hpr nd
    have ha₃ : h'.get? a = some (genObj gens.size nv qv) := (S₃.obj _ (List.mem_append_left _ (List.mem_append_right _ (.head _)))).1
    rw [push_set]
    obtain ⟨k', l', c', p', fs', rfl⟩ := hgs'
    refine letOwned_gen (s := ⟨h', _, _, _, _⟩) ha₃ (wpAny_assign_Tuple F.handled (s := ⟨h', _, _, _, _⟩) htup rfl rfl fun h₄ hx₄ => ?_)
    replace hx₄ : Heap.ExtBut h'.objs.size h' h₄ := hx₄
    have S₄ := S₃.keeps (h' := h₄) (fun b o e => hx₄ b o (Nat.ne_of_lt (Heap.lt_size e)) e)
    show wpAny _ A (do holding [Value.str (mkS cs) u2] (assign (.Name xi pi) env (.int (ps : Nat) u1)); do holding [] (assign (.Name xv pv) env (.str (mkS cs) u2)); pure ()) _ _ _
    refine wpAny_bind (wpAny_holding (wpAny_assign_Name (wpAny_storeName_local hxi S₄.ns (fun h₅ hn₅ hs₅ => ?_) hp)))
    have S₅ := S₄.set hn₅ hs₅
    refine wpAny_bind (wpAny_holding (wpAny_assign_Name (wpAny_storeName_local hxv hn₅ (fun h₆ hn₆ hs₆ => wpAny_pure ?_) hp)))
    have S₆ := S₅.set hn₆ hs₆
    rw [List.append_assoc] at S₆
    refine wpAny_mono (step _ i ps cs u1 u2 g₁ m₁ own₁ _ h₆ _ _ hget hg rfl hJ S₆) (fun f s₃ q => ?_) fun _ _ x => x
    have fin : (∃ g' m'' own'' h' tk'', s₃ = ⟨h', gens.push (.suspended k' l' c' p' fs' false), d, tk'', os⟩ ∧ Le g₁ g' ∧ St g' env.locals m'' (own'' ++ ([(a, genObj gens.size nv qv)] ++ priv')) h' ∧ J (i + 1) g' m'' own'') →
        ∃ mm, mm < T.length + 1 - i ∧ ∃ i g₁ m₁ own₁ priv gs h tk, mm = T.length + 1 - i ∧ i ≤ T.length ∧ s₃ = ⟨h, gens.push gs, d, tk, os⟩ ∧ Le g g₁ ∧ St g₁ env.locals m₁ (own₁ ++ [(a, genObj gens.size nv qv)] ++ priv) h ∧
          Rdy w A.in1 gens.size g (T.drop i) priv gs ∧ (gs ≠ .running ∧ gs ≠ .finished) ∧ gs.bare = true ∧ J i g₁ m₁ own₁ := by
      rintro ⟨g', m'', own'', h₇, tk₇, rfl, hle, S₇, hJ₇⟩
      exact ⟨T.length + 1 - (i + 1), by omega, i + 1, g', m'', own'', priv', _, h₇, tk₇, rfl, hlt, rfl, hg.trans hle, (by rw [List.append_assoc]; exact S₇), (by rw [hdrop]; exact R'), ⟨nofun, nofun⟩, rfl, hJ₇⟩
    cases f with
    | next => exact fin q
    | cont => exact fin q
    | brk => exact q
    | ret v => exact q
end Mine
end
section
open PySem PySem.W PySem.W.X PySem.Calls PyProof.Rows
set_option maxRecDepth 10000
namespace Mine

abbrev lobj (items : Array Value) (n : Nat) : Obj := { cls := .type "list", data := .seq items n }

theorem app_stmt {w : World} {A : Around} {E : Value → Shared → Prop} {s : Shared} {env : Env} {g : Heap} {m : Str → Option Value} {own : List (Addr × Obj)} {x : Str} {l : Addr} {items₀ : Array Value} {n : Nat} {e : Expr} {p1 p2 p3 pos : Pos} {Q : Flow → Shared → Prop}
    (S : St g env.locals m own s.heap) (hx : m x = some (.ref l)) (ho : s.heap.get? l = some (lobj items₀ n))
    (h : wpAny (model PG w) A (eval e env) (fun v s₁ => ∃ items, s₁.heap.PlainList l items ∧ items.size ≤ sizeLine ∧ ∀ h' n, h'.get? l = some (lobj (items.push v) n) → Heap.ExtBut l s₁.heap h' → Q .next ⟨h', s₁.gens, s₁.drawn, s₁.toks, s₁.os⟩) E s)
    (he : starEach [e] env = (false, eval e env) :: starEach [] env := by rfl)
    (hca : ∃ pl, eval (.Call (.Attribute (.Name x p1) "append" p2) [e] [] p3) env = (do
      let ov ← eval (.Name x p1) env
      standAt p2.atName
      let (f, first) ← holding [ov] (getMethod ov "append" pl)
      callWith p3 f first (backTo p3 (starEach [e] env)) []) := by exact ⟨_, rfl⟩)
    (hsw : swapsWith (.Call (.Attribute (.Name x p1) "append" p2) [e] [] p3) none pos.line env = pure false := by rfl)
    (hk : env.scope.kind = .function := by rfl) (hlx : env.kindOf x = some .local := by rfl) (hd : (x == ("__debug__" : Str)) = false := by decide) (hi : interactive env = false := by rfl) :
    wpAny (model PG w) A (exec (.Expr (.Call (.Attribute (.Name x p1) "append" p2) [e] [] p3) pos) env) Q E s := by
  obtain ⟨pl, hca⟩ := hca
  refine wpAny_Expr (MethodCall_ (nm S hx (getMethod_list_append ho rfl rfl (callWith_method1 (wpAny_items_cons (wpAny_mono h (fun v s₁ h₁ => wpAny_items_nil ?_) fun _ _ x => x) he) he)) hk hlx hd) hca) hi hsw
  obtain ⟨items, hl, hsz, hq⟩ := h₁
  exact wpAny_list_append_plain hl (fun h' ⟨n, hn⟩ hs => hq h' n hn hs.extBut) hsz

abbrev quS : Str := "\""
/-- what the walk of _strip_quoted_realnames keeps: start, open_pos, result -/
def stripStep (x : Str) (st : Nat × Option Nat × List Str) (tok : Nat × List Nat) : Nat × Option Nat × List Str :=
  if tok.2 = [34] then match st.2.1 with
    | none => (st.1, some tok.1, st.2.2)
    | some q => (tok.1 + 1, none, if st.1 = q then st.2.2 else st.2.2 ++ [Txt.slice x (some (st.1 : Int)) (some (q : Int))])
  else st
def stripAll (x : Str) (toks : List (Nat × List Nat)) : Nat × Option Nat × List Str := toks.foldl (stripStep x) (0, none, [])
def stripRes (x : Str) : List Str :=
  let st := stripAll x (toksFrom 0 false x.cps.toList)
  if st.1 < x.length then st.2.2 ++ [Txt.slice x (some (st.1 : Int)) none] else st.2.2
def stripped (x : Str) : Str := if Txt.contains x quS = true then Txt.join Str.empty (stripRes x) else x

theorem stripStep_small {x : Str} {st : Nat × Option Nat × List Str} {tok : Nat × List Nat} {k : Nat} (h : st.2.2.length ≤ k ∧ ∀ y ∈ st.2.2, y.length ≤ x.length) :
    (stripStep x st tok).2.2.length ≤ k + 1 ∧ ∀ y ∈ (stripStep x st tok).2.2, y.length ≤ x.length := by
  unfold stripStep
  split
  · split
    · exact ⟨Nat.le_succ_of_le h.1, h.2⟩
    · dsimp only
      split
      · exact ⟨Nat.le_succ_of_le h.1, h.2⟩
      · refine ⟨by rw [List.length_append, List.length_singleton]; omega, fun y hy => ?_⟩
        rcases List.mem_append.mp hy with hy | hy
        · exact h.2 y hy
        · rw [List.mem_singleton.mp hy]; exact Txt.slice_le x _ _
  · exact ⟨Nat.le_succ_of_le h.1, h.2⟩
theorem stripAll_small (x : Str) (toks : List (Nat × List Nat)) : (stripAll x toks).2.2.length ≤ toks.length ∧ ∀ y ∈ (stripAll x toks).2.2, y.length ≤ x.length := by
  suffices ∀ (toks : List (Nat × List Nat)) st k, (st.2.2.length ≤ k ∧ ∀ y ∈ st.2.2, y.length ≤ x.length) → (toks.foldl (stripStep x) st).2.2.length ≤ k + toks.length ∧ ∀ y ∈ (toks.foldl (stripStep x) st).2.2, y.length ≤ x.length by
    have := this toks (0, none, []) 0 ⟨Nat.le_refl _, fun _ h => nomatch h⟩
    rw [Nat.zero_add] at this
    exact this
  intro toks
  induction toks with
  | nil => intro st k h; simpa using h
  | cons t r ih =>
    intro st k h
    rw [List.foldl_cons, List.length_cons, show k + (r.length + 1) = k + 1 + r.length by omega]
    exact ih _ (k + 1) (stripStep_small h)
theorem toksFrom_len : ∀ (cs : List Nat) (i : Nat) (e : Bool), (toksFrom i e cs).length ≤ cs.length + 1
  | [], i, e => by unfold toksFrom; split <;> simp
  | c :: r, i, e => by
    unfold toksFrom
    have h1 := toksFrom_len r (i + 1)
    split
    · have := h1 false; simp; omega
    · split
      · have := h1 true; simp; omega
      · have := h1 false; simp; omega
theorem stripRes_small (x : Str) : (stripRes x).length ≤ x.length + 2 ∧ ∀ y ∈ stripRes x, y.length ≤ x.length := by
  have h := stripAll_small x (toksFrom 0 false x.cps.toList)
  have hl := toksFrom_len x.cps.toList 0 false
  have : x.cps.toList.length = x.length := by simp [Str.length]
  unfold stripRes
  dsimp only
  split
  · refine ⟨by rw [List.length_append, List.length_singleton]; omega, fun y hy => ?_⟩
    rcases List.mem_append.mp hy with hy | hy
    · exact h.2 y hy
    · rw [List.mem_singleton.mp hy]; exact Txt.slice_le x _ _
  · exact ⟨by omega, h.2⟩
theorem join_ok {x : Str} (hx : x.length ≤ 1000) : JoinOk Str.empty (stripRes x) = true := by
  have h := stripRes_small x
  have key : ∀ (l : List Str) (a : Nat), (∀ y ∈ l, y.length ≤ x.length) → l.foldl (fun (n : Nat) (s : Str) => n + s.length + Str.empty.length) a ≤ a + l.length * x.length := by
    intro l
    induction l with
    | nil => intro a _; simp
    | cons y r ih =>
      intro a hy
      rw [List.foldl_cons, List.length_cons, Nat.add_mul, Nat.one_mul]
      have h1 := ih (a + y.length + Str.empty.length) (fun z hz => hy z (List.mem_cons_of_mem _ hz))
      have h2 := hy y (List.mem_cons_self ..)
      rw [show Str.empty.length = 0 from rfl] at h1 ⊢
      omega
  have k := key (stripRes x) 0 h.2
  have : (stripRes x).length * x.length ≤ 1002 * 1000 := Nat.mul_le_mul (by omega) hx
  unfold JoinOk
  rw [Bool.not_eq_true', List.foldl_toArray]
  unfold Builtin.Str.tooLong
  rw [decide_eq_false_iff_not, sizeLine_eq]
  omega

theorem mk34 (cs : List Nat) : mkS cs = quS ↔ cs = [34] := by
  constructor
  · intro h
    have := congrArg (fun x : Str => x.cps.toList) h
    rw [mkS_toList] at this
    exact this.trans (by decide)
  · rintro rfl; decide

def opVal : Option Nat → Value → Prop
  | none, v => v = .none
  | some q, v => ∃ t, v = .int (q : Nat) t

theorem stripAll_snoc (x : Str) (T : List (Nat × List Nat)) {i : Nat} {ps : Nat} {cs : List Nat} (h : T[i]? = some (ps, cs)) : stripAll x (T.take (i + 1)) = stripStep x (stripAll x (T.take i)) (ps, cs) := by
  unfold stripAll
  rw [List.take_add_one, h, List.foldl_append]; rfl

set_option maxHeartbeats 8000000 in
theorem strip_spec {w : World} {mg mb : Str → Option Value} {A : Around} {R : Result → Shared → Prop} {s : Shared} (B : Bas w mg mb s.heap) (F : Fine A 14) {x : Str} {t : Tok} (hlen : x.length ≤ 1000)
    (h : ∀ s' t', Ext s s' → R (.ok (.ret (.str (stripped x) t'))) s') : codeAny (model PG w) A (.call (.ref 28) ⟨[.str x t], []⟩) R s := by
  obtain ⟨hp, gens, d, tk, os⟩ := s
  refine enter (fd := fdI 2 (.str "cpy313.email.utils" 187) (.ref 27)) (binds := [("addr", .str x t)]) B F.room (ho := rfl) rfl rfl rfl (fun h₁ E S B₁ => ?_) (locs rfl) rfl rfl rfl (by decide)
  dsimp only at S B h ⊢
  generalize hp.objs.size = L at S ⊢
  have F' := F.deeper (envAt (fdI 2 (.str "cpy313.email.utils" 187) (.ref 27)) L 28)
  generalize A.deeper (envAt (fdI 2 (.str "cpy313.email.utils" 187) (.ref 27)) L 28) = A' at F' ⊢
  refine wpAny_execs_cons (wpAny_If (wpAny_isTrue_Compare1 (wpAny_Constant_str (nm S rfl (SB.notContains (wpAny_truthy_bool ?_))))))
  cases hc : Txt.contains x quS with
  | false =>
    rw [if_pos (by simp)]
    refine wpAny_execs_cons (wpAny_Return_some (nm S rfl ?_))
    have e : stripped x = x := by unfold stripped; rw [hc]; rfl
    dsimp only
    rw [← e]
    exact h _ t ⟨S.keep, rfl, rfl, [], by simp, fun _ hx => nomatch hx⟩
  | true => 
    rw [if_neg (by simp)]
    refine wpAny_execs_nil (wpAny_execs_cons (wpAny_Assign_Name (wpAny_Constant_int (sn S fun h₂ S₂ => ?_))))
    refine wpAny_execs_cons (wpAny_Assign_Name (wpAny_Constant_none (sn S₂ fun h₃ S₃ => ?_)))
    refine wpAny_execs_cons (wpAny_Assign_Name (wpAny_List (wpAny_items_nil ⟨by decide, ?_⟩)))
    dsimp only at S₃ ⊢
    have S₄ := S₃.push (lobj #[] 0)
    generalize h₃.objs.size = lo at S₄ ⊢
    refine sn S₄ fun h₅ S₅ => ?_
    dsimp only at S₅ ⊢
    generalize hT : toksFrom 0 false x.cps.toList = T
    refine wpAny_execs_cons (for_gen F'.less B S₅ (txt := x) (tt := t) rfl
      (fun i g m own => ∃ l n t1 v, own = [(lo, lobj (strValues l).toArray n)] ∧ l.map (·.1) = (stripAll x (T.take i)).2.2 ∧ m "start" = some (.int ((stripAll x (T.take i)).1 : Nat) t1) ∧ m "open_pos" = some v ∧ opVal (stripAll x (T.take i)).2.1 v ∧
        m "result" = some (.ref lo) ∧ m "addr" = some (.str x t)) ⟨[], 0, _, _, rfl, rfl, rfl, rfl, rfl, rfl, rfl⟩ ?_ ?_)
    · rintro E' i ps cs u1 u2 g m own p h₆ tk₆ gs hget hg hbare ⟨l, n, t1, v, rfl, hl, hst, hop, hov, hre, had⟩ S₆
      rw [hT] at hget
      have hsn := stripAll_snoc x T hget
      refine wpAny_execs_cons (wpAny_If (wpAny_isTrue_Compare1 (nm S₆ rfl (wpAny_Constant_str (eqS (wpAny_truthy_bool ?_))))))
      by_cases hcs : cs = [34]
      · rw [if_pos (decide_eq_true ((mk34 cs).mpr hcs))]
        refine wpAny_execs_cons (wpAny_If (wpAny_isTrue_Compare1 (nm S₆ hop (wpAny_Constant_none (is_none (wpAny_truthy_bool ?_))))))
        cases ho : (stripAll x (T.take i)).2.1 with
        | none =>
          rw [ho] at hov
          obtain rfl : v = .none := hov
          rw [if_pos (by simp)]
          refine wpAny_execs_cons (wpAny_Assign_Name (nm S₆ rfl (sn S₆ fun h₇ S₇ => ?_)))
          have e : stripAll x (T.take (i + 1)) = ((stripAll x (T.take i)).1, some ps, (stripAll x (T.take i)).2.2) := by
            rw [hsn]; unfold stripStep; rw [if_pos hcs, ho]
          refine wpAny_execs_nil (wpAny_execs_nil (wpAny_execs_nil ⟨g, _, _, h₇, _, rfl, Le.refl _, S₇, l, n, t1, _, rfl, ?_, ?_, rfl, ?_, hre, had⟩))
          · rw [e]; exact hl
          · rw [e]; exact hst
          · rw [e]; exact ⟨_, rfl⟩
        | some q =>
          rw [ho] at hov
          obtain ⟨t2, rfl⟩ := hov
          rw [if_neg (by simp)]
          refine wpAny_execs_cons (wpAny_If (wpAny_isTrue_Compare1 (nm S₆ hst (nm S₆ hop (ne_int (wpAny_truthy_bool ?_))))))
          by_cases hq : (stripAll x (T.take i)).1 = q
          · rw [if_neg (by simp [hq])]
            refine wpAny_execs_nil (wpAny_execs_cons (wpAny_Assign_Name (wpAny_BinOp (nm S₆ rfl (wpAny_Constant_int (add_int (sn S₆ fun h₇ S₇ => ?_)))))))
            refine wpAny_execs_cons (wpAny_Assign_Name (wpAny_Constant_none (sn S₇ fun h₈ S₈ => ?_)))
            have e : stripAll x (T.take (i + 1)) = (ps + 1, none, (stripAll x (T.take i)).2.2) := by
              rw [hsn]; unfold stripStep; rw [if_pos hcs, ho]; dsimp only; rw [if_pos hq]
            refine wpAny_execs_nil (wpAny_execs_nil (wpAny_execs_nil ⟨g, _, _, h₈, _, rfl, Le.refl _, S₈, l, n, tk₆ + 1 + 1, .none, rfl, ?_, ?_, rfl, ?_, hre, had⟩))
            · rw [e]; exact hl
            · rw [e]; rfl
            · rw [e]; rfl
          · rw [if_pos (by simpa using fun z => hq (Int.ofNat.inj z))]
            have hlo := S₆.at 0 rfl
            refine wpAny_execs_cons (app_stmt S₆ hre hlo (wpAny_Subscript_str_slice (nm S₆ had (nm S₆ hst (nm S₆ hop ⟨x, t, some (_, t1), some (_, t2), rfl, rfl, rfl, ?_⟩)))))
            refine post_val_or_str ⟨Nat.le_trans (Txt.slice_le x _ _) (by rw [sizeLine_eq]; omega), fun t' k => ⟨_, ⟨n, Heap.get?_push_of_some _ hlo⟩, ?_, fun h₇ n₇ hn₇ hs₇ => ?_⟩⟩
            · have h1 := (stripAll_small x (T.take i)).1
              have h2 := toksFrom_len x.cps.toList 0 false
              have h3 : x.cps.toList.length = x.length := by simp [Str.length]
              have h4 := congrArg List.length hl
              have h5 : (T.take i).length ≤ T.length := by rw [List.length_take]; omega
              rw [hT] at h2
              rw [List.length_map] at h4
              rw [List.size_toArray, strValues, List.length_map, sizeLine_eq]
              omega
            · dsimp only at hn₇ hs₇ ⊢
              have e2 : (strValues l).toArray.push (Value.str (Txt.slice x (some ((stripAll x (T.take i)).1 : Int)) (some (q : Int))) t') = (strValues (l ++ [(Txt.slice x (some ((stripAll x (T.take i)).1 : Int)) (some (q : Int)), t')])).toArray := by simp [strValues]
              have S₇ := (S₆.keeps (fun b o e => Heap.get?_push_of_some _ e)).upd 0 rfl hs₇ (e2 ▸ hn₇)
              refine wpAny_execs_nil (wpAny_execs_cons (wpAny_Assign_Name (wpAny_BinOp (nm S₇ rfl (wpAny_Constant_int (add_int (sn S₇ fun h₇ S₇ => ?_)))))))
              refine wpAny_execs_cons (wpAny_Assign_Name (wpAny_Constant_none (sn S₇ fun h₈ S₈ => ?_)))
              have e : stripAll x (T.take (i + 1)) = (ps + 1, none, (stripAll x (T.take i)).2.2 ++ [Txt.slice x (some ((stripAll x (T.take i)).1 : Int)) (some (q : Int))]) := by
                rw [hsn]; unfold stripStep; rw [if_pos hcs, ho]; dsimp only; rw [if_neg hq]
              refine wpAny_execs_nil (wpAny_execs_nil (wpAny_execs_nil ⟨g, _, [(lo, lobj (strValues (l ++ [(_, t')])).toArray n₇)], h₈, _, rfl, Le.refl _, S₈, l ++ [(_, t')], n₇, k + 1, .none, rfl, ?_, ?_, rfl, ?_, hre, had⟩))
              · rw [e, List.map_append, hl]; rfl
              · rw [e]; rfl
              · rw [e]; rfl
      · rw [if_neg (by rw [decide_eq_true_eq, mk34]; exact hcs)]
        have e : stripAll x (T.take (i + 1)) = stripAll x (T.take i) := by
          rw [hsn]; unfold stripStep; rw [if_neg hcs]
        refine wpAny_execs_nil (wpAny_execs_nil ⟨g, _, _, h₆, _, rfl, Le.refl _, S₆, l, n, t1, v, rfl, ?_, ?_, hop, ?_, hre, had⟩)
        · rw [e]; exact hl
        · rw [e]; exact hst
        · rw [e]; exact hov
    · rintro g m own h₆ tk₆ gs hg hbare ⟨l, n, t1, v, rfl, hl, hst, hop, hov, hre, had⟩ S₆
      rw [hT, List.take_length] at hl hst
      have hlo := S₆.at 0 rfl
      have fin : ∀ (s' : Shared) (t' : Tok), Le h₆ s'.heap → s'.gens = gens.push gs → s'.os = os → s'.drawn = d → R (.ok (.ret (.str (stripped x) t'))) s' := fun s' t' h1 h2 h3 h4 =>
        h s' t' ⟨(hg.trans S₆.keep).trans h1, h3, h4, [gs], by rw [h2]; simp, fun y hy => by rw [List.mem_singleton.mp hy]; exact hbare⟩
      have e0 : stripped x = Txt.join Str.empty (stripRes x) := by unfold stripped; rw [if_pos hc]
      refine wpAny_execs_cons (wpAny_If (wpAny_isTrue_Compare1 (nm S₆ hst (wpAny_Call_NameR (bn (B.keeps hg) S₆ rfl boot_len (callWith_builtin1 (nm S₆ had (len_str ?_ (wpAny_lt_int (wpAny_truthy_bool ?_))))))))))
      · omega
      by_cases hlt : (stripAll x T).1 < x.length
      · rw [if_pos (by rw [decide_eq_true_eq]; exact Int.ofNat_lt.mpr hlt)]
        refine wpAny_execs_cons (app_stmt S₆ hre hlo (wpAny_Subscript_str_slice (nm S₆ had (nm S₆ hst (wpAny_evalPart_none ⟨x, t, some (_, t1), none, rfl, rfl, rfl, ?_⟩)))))
        refine post_val_or_str ⟨Nat.le_trans (Txt.slice_le x _ _) (by rw [sizeLine_eq]; omega), fun t' k => ⟨_, ⟨n, Heap.get?_push_of_some _ hlo⟩, ?_, fun h₇ n₇ hn₇ hs₇ => ?_⟩⟩
        · have h1 := (stripAll_small x T).1
          have h2 := toksFrom_len x.cps.toList 0 false
          have h3 : x.cps.toList.length = x.length := by simp [Str.length]
          have h4 := congrArg List.length hl
          rw [hT] at h2
          rw [List.length_map] at h4
          rw [List.size_toArray, strValues, List.length_map, sizeLine_eq]
          omega
        · dsimp only at hn₇ hs₇ ⊢
          have e2 : (strValues l).toArray.push (Value.str (Txt.slice x (some ((stripAll x T).1 : Int)) none) t') = (strValues (l ++ [(Txt.slice x (some ((stripAll x T).1 : Int)) none, t')])).toArray := by simp [strValues]
          have S₇ := (S₆.keeps (fun b o e => Heap.get?_push_of_some _ e)).upd 0 rfl hs₇ (e2 ▸ hn₇)
          have hlo₇ := S₇.at 0 rfl
          have e3 : stripRes x = (l ++ [(Txt.slice x (some ((stripAll x T).1 : Int)) none, t')]).map (·.1) := by
            unfold stripRes; rw [hT, List.map_append, hl]; dsimp only; rw [if_pos hlt]; rfl
          refine wpAny_execs_nil (wpAny_execs_cons (wpAny_Return_some (MethodCall_ (wpAny_Constant_str (GM.join (callWith_method1 (wpAny_items_cons (nm S₇ hre (wpAny_items_nil ?_)))))))))
          refine SC.join (x := Str.empty) (l := l ++ [(Txt.slice x (some ((stripAll x T).1 : Int)) none, t')]) ⟨_, hlo₇, rfl, _, rfl⟩ e3.symm (join_ok hlen) fun t2 k2 => ?_
          dsimp only
          rw [← e0]
          refine h _ t2 ⟨hg.trans S₇.keep, rfl, rfl, [gs], by simp, fun y hy => by rw [List.mem_singleton.mp hy]; exact hbare⟩
      · rw [if_neg (by rw [decide_eq_true_eq]; exact fun z => hlt (Int.ofNat_lt.mp z))]
        have e3 : stripRes x = l.map (·.1) := by
          unfold stripRes; rw [hT, hl]; dsimp only; rw [if_neg hlt]
        refine wpAny_execs_nil (wpAny_execs_cons (wpAny_Return_some (MethodCall_ (wpAny_Constant_str (GM.join (callWith_method1 (wpAny_items_cons (nm S₆ hre (wpAny_items_nil ?_)))))))))
        refine SC.join (x := Str.empty) (l := l) ⟨_, hlo, rfl, _, rfl⟩ e3.symm (join_ok hlen) fun t2 k2 => ?_
        dsimp only
        rw [← e0]
        exact fin _ t2 (Le.refl _) rfl rfl rfl
end Mine
end
section
open PySem PySem.W PySem.W.X PySem.Calls PyProof.Rows
set_option maxRecDepth 10000
namespace Mine

/-- the level of the marks: what the tokens alone show -/
def tokMarks (T : List (Nat × List Nat)) : List Nat := T.flatMap fun t => if t.2 = [40] then [40] else if t.2 = [41] then [41] else []
def checked (x : Str) : Bool := decide (lev 0 (tokMarks (toksFrom 0 false (stripped x).cps.toList)) = some 0)

theorem mk40 (cs : List Nat) : mkS cs = opS ↔ cs = [40] := by
  constructor
  · intro h
    have := congrArg (fun x : Str => x.cps.toList) h
    rw [mkS_toList] at this
    exact this.trans (by decide)
  · rintro rfl; decide
theorem mk41 (cs : List Nat) : mkS cs = clS ↔ cs = [41] := by
  constructor
  · intro h
    have := congrArg (fun x : Str => x.cps.toList) h
    rw [mkS_toList] at this
    exact this.trans (by decide)
  · rintro rfl; decide

theorem tokMarks_snoc (T : List (Nat × List Nat)) {i : Nat} {ps : Nat} {cs : List Nat} (h : T[i]? = some (ps, cs)) :
    tokMarks (T.take (i + 1)) = tokMarks (T.take i) ++ (if cs = [40] then [40] else if cs = [41] then [41] else []) := by
  unfold tokMarks
  rw [List.take_add_one, h, List.flatMap_append]
  simp

theorem lev_none {k : Nat} {a : List Nat} (h : lev k a = none) (b : List Nat) : lev k (a ++ b) = none := by rw [lev_append, h]; rfl
theorem Bas.ext {w : World} {mg mb : Str → Option Value} {s s' : Shared} (B : Bas w mg mb s.heap) (e : Ext s s') : Bas w mg mb s'.heap := B.keeps e.keep

set_option maxHeartbeats 8000000 in
theorem check_spec {w : World} {mg mb : Str → Option Value} {A : Around} {R : Result → Shared → Prop} {s : Shared} (B : Bas w mg mb s.heap) (F : Fine A 15) {x : Str} {t : Tok} (hlen : x.length ≤ 1000)
    (h : ∀ s', Ext s s' → R (.ok (.ret (.bool (checked x)))) s') : codeAny (model PG w) A (.call (.ref 35) ⟨[.str x t], []⟩) R s := by
  obtain ⟨hp, gens, d, tk, os⟩ := s
  refine enter (fd := fdI 3 (.str "cpy313.email.utils" 187) (.ref 34)) (binds := [("addr", .str x t)]) B F.room (ho := rfl) rfl rfl rfl (fun h₁ E S B₁ => ?_) (locs rfl) rfl rfl rfl (by decide)
  dsimp only at S B h ⊢
  generalize hp.objs.size = L at S ⊢
  have F' := F.deeper (envAt (fdI 3 (.str "cpy313.email.utils" 187) (.ref 34)) L 35)
  generalize A.deeper (envAt (fdI 3 (.str "cpy313.email.utils" 187) (.ref 34)) L 35) = A' at F' ⊢
  refine wpAny_execs_cons (wpAny_Assign_Name (wpAny_Call_NameR (gn (v := .ref 28) B S rfl (callWith_def (o := _) (fd := fdI 2 (.str "cpy313.email.utils" 187) (.ref 27)) (f := 28) rfl (wpAny_items_cons (nm S rfl (wpAny_items_nil ⟨(B.keeps S.keep).X 28 _ rfl, wpAny_call ?_⟩)))))))
  refine strip_spec B₁ F' hlen fun s' t' hx => ?_
  obtain ⟨h₂, gens₂, d₂, tk₂, os₂⟩ := s'
  obtain ⟨k₂, e₂, ed₂, more, em, hm⟩ := hx
  dsimp only at k₂ e₂ ed₂ em
  subst e₂ ed₂ em
  have S₂ := S.keeps k₂
  refine sn S₂ fun h₃ S₃ => ?_
  refine wpAny_execs_cons (wpAny_Assign_Name (wpAny_Constant_int (sn S₃ fun h₄ S₄ => ?_)))
  dsimp only at S₄ ⊢
  generalize hT : toksFrom 0 false (stripped x).cps.toList = T
  have ext : ∀ (h' : Heap) tk' gs, Le hp h' → gs.bare = true → Ext ⟨hp, gens, d₂, tk, os₂⟩ ⟨h', (gens ++ more.toArray).push gs, d₂, tk', os₂⟩ := fun h' tk' gs hk hb =>
    ⟨hk, rfl, rfl, more ++ [gs], by simp, fun y hy => by
      rcases List.mem_append.mp hy with hy | hy
      · exact hm y hy
      · rw [List.mem_singleton.mp hy]; exact hb⟩
  refine wpAny_execs_cons (for_gen F'.less.less B S₄ (txt := stripped x) (tt := t') rfl
    (fun i g m own => ∃ k t1, own = [] ∧ lev 0 (tokMarks (T.take i)) = some k ∧ m "opens" = some (.int (k : Nat) t1)) ⟨0, _, rfl, rfl, rfl⟩ ?_ ?_)
  · rintro E' i ps cs u1 u2 g m own p h₆ tk₆ gs hget hg hbare ⟨k, t1, rfl, hk, hop⟩ S₆
    rw [hT] at hget
    have hsn := tokMarks_snoc T hget
    refine wpAny_execs_cons (wpAny_If (wpAny_isTrue_Compare1 (nm S₆ rfl (wpAny_Constant_str (eqS (wpAny_truthy_bool ?_))))))
    by_cases h40 : cs = [40]
    · rw [if_pos (decide_eq_true ((mk40 cs).mpr h40))]
      refine wpAny_execs_cons (wpAny_AugAssign_Name (ln S₆ hop (wpAny_Constant_int (iadd_int (sn S₆ fun h₇ S₇ => ?_)))))
      refine wpAny_execs_nil (wpAny_execs_nil ⟨g, _, [], h₇, _, rfl, Le.refl _, S₇, k + 1, _, rfl, ?_, rfl⟩)
      rw [hsn, if_pos h40, lev_append, hk]; rfl
    · rw [if_neg (by rw [decide_eq_true_eq, mk40]; exact h40)]
      refine wpAny_execs_cons (wpAny_If (wpAny_isTrue_Compare1 (nm S₆ rfl (wpAny_Constant_str (eqS (wpAny_truthy_bool ?_))))))
      by_cases h41 : cs = [41]
      · rw [if_pos (decide_eq_true ((mk41 cs).mpr h41))]
        refine wpAny_execs_cons (wpAny_AugAssign_Name (ln S₆ hop (wpAny_Constant_int (isub_int (sn S₆ fun h₇ S₇ => ?_)))))
        refine wpAny_execs_cons (wpAny_If (wpAny_isTrue_Compare1 (nm S₇ rfl (wpAny_Constant_int (wpAny_lt_int (wpAny_truthy_bool ?_))))))
        cases k with
        | zero =>
          rw [if_pos (by decide)]
          refine wpAny_execs_cons (wpAny_Return_some (wpAny_Constant_bool ?_))
          have e : checked x = false := by
            unfold checked
            rw [hT, ← List.take_append_drop (i + 1) T]
            have : tokMarks (T.take (i + 1) ++ T.drop (i + 1)) = tokMarks (T.take (i + 1)) ++ tokMarks (T.drop (i + 1)) := by unfold tokMarks; rw [List.flatMap_append]
            rw [this, lev_none]
            · simp
            · rw [hsn, if_neg h40, if_pos h41, lev_append, hk]; rfl
          dsimp only
          rw [← e]
          exact h _ (ext _ _ _ (hg.trans S₇.keep) hbare)
        | succ k =>
          rw [if_neg (by rw [decide_eq_true_eq]; omega)]
          rw [show (((k + 1 : Nat) : Int) - 1) = (k : Int) by omega] at S₇
          refine wpAny_execs_nil (wpAny_execs_nil (wpAny_execs_nil (wpAny_execs_nil ⟨g, _, [], h₇, _, rfl, Le.refl _, S₇, k, _, rfl, ?_, rfl⟩)))
          rw [hsn, if_neg h40, if_pos h41, lev_append, hk]; rfl
      · rw [if_neg (by rw [decide_eq_true_eq, mk41]; exact h41)]
        refine wpAny_execs_nil (wpAny_execs_nil (wpAny_execs_nil ⟨g, _, [], h₆, _, rfl, Le.refl _, S₆, k, t1, rfl, ?_, hop⟩))
        rw [hsn, if_neg h40, if_neg h41, lev_append, hk]; rfl
  · rintro g m own h₆ tk₆ gs hg hbare ⟨k, t1, rfl, hk, hop⟩ S₆
    rw [hT, List.take_length] at hk
    refine wpAny_execs_cons (wpAny_Return_some (wpAny_Compare1 (nm S₆ hop (wpAny_Constant_int (eq_int ?_)))))
    have e : checked x = ((k : Int) == 0) := by
      unfold checked
      rw [hT, hk]
      cases k with
      | zero => rfl
      | succ k => simp; omega
    dsimp only
    rw [← e]
    exact h _ (ext _ _ _ (hg.trans S₆.keep) hbare)
end Mine
end
section
open PySem PySem.W PySem.W.X PySem.Calls PyProof.Rows
set_option maxRecDepth 10000
namespace Mine

/-- the pieces that are no hole, by their signs -/
def Alph : List (List Nat) := [[40], [41], [34, 40, 34], [34, 41, 40, 34], [92, 40], [92, 41], [92, 34], [97], [92, 92], [34, 92, 34, 41, 34]]
def vis (v : List Nat) : List Nat := if v.head? = some 34 then [] else v
def marks (v : List Nat) : List Nat := if v = [40] then [40] else if v = [41] then [41] else []

theorem tokMarks_cons (t : Nat × List Nat) (T : List (Nat × List Nat)) : tokMarks (t :: T) = (if t.2 = [40] then [40] else if t.2 = [41] then [41] else []) ++ tokMarks T := by
  unfold tokMarks; rw [List.flatMap_cons]

theorem marks_run : ∀ (vs : List (List Nat)) (i : Nat), (∀ v ∈ vs, v ∈ Alph) → tokMarks (toksFrom i false (vs.flatMap vis)) = vs.flatMap marks
  | [], i, _ => by simp [toksFrom, tokMarks]
  | v :: vs, i, h => by
    have ih := fun j => marks_run vs j (fun u hu => h u (List.mem_cons_of_mem _ hu))
    have hv := h v (List.mem_cons_self ..)
    unfold Alph at hv
    simp only [List.mem_cons, List.not_mem_nil, or_false] at hv
    rcases hv with rfl | rfl | rfl | rfl | rfl | rfl | rfl | rfl | rfl | rfl <;>
      simp [List.flatMap_cons, vis, marks, toksFrom, tokMarks_cons, ih]

abbrev tl (x : Str) : List Nat := x.cps.toList
theorem slice_nat (x : Str) {a b : Nat} (hab : a ≤ b) (hb : b ≤ x.length) : tl (Txt.slice x (some (a : Int)) (some (b : Int))) = ((tl x).drop a).take (b - a) := by
  have := StrLaws.sliceText_nat x hab hb
  rw [show Txt.slice x (some (a : Int)) (some (b : Int)) = StrLaws.sliceText x (some (a : Int)) (some (b : Int)) from rfl, this]
theorem slice_from (x : Str) {a : Nat} (hb : a ≤ x.length) : tl (Txt.slice x (some (a : Int)) none) = (tl x).drop a := by
  have e : Txt.slice x (some (a : Int)) none = Txt.slice x (some (a : Int)) (some (x.length : Int)) := by
    show StrLaws.sliceText x _ none = StrLaws.sliceText x _ _
    unfold StrLaws.sliceText; rw [StrLaws.sliceIdx_none_hi]
  rw [e, slice_nat x hb (Nat.le_refl _)]
  exact List.take_of_length_le (by simp [Str.length])

def quoted (v : List Nat) : Bool := v.head? == some 34

theorem strip_run (x : Str) : ∀ (vs : List (List Nat)) (pre : List Nat) (st : Nat) (res : List Str), (∀ v ∈ vs, v ∈ Alph) → tl x = pre ++ vs.flatten → st ≤ pre.length →
    ∃ st' res', (toksFrom pre.length false vs.flatten).foldl (stripStep x) (st, none, res) = (st', none, res') ∧ st' ≤ x.length ∧ res'.flatMap tl ++ (tl x).drop st' = res.flatMap tl ++ pre.drop st ++ vs.flatMap vis
  | [], pre, st, res, _, hx, hst => by
    refine ⟨st, res, by simp [toksFrom], ?_, ?_⟩
    · have := congrArg List.length hx
      simp at this; unfold Str.length; omega
    · rw [hx]; simp
  | v :: vs, pre, st, res, h, hx, hst => by
    have hv := h v (List.mem_cons_self ..)
    have hxl : x.length = pre.length + v.length + vs.flatten.length := by
      have := congrArg List.length hx
      rw [List.flatten_cons, List.length_append, List.length_append] at this
      rw [show x.length = (tl x).length by simp [Str.length], this]; omega
    have hx' : tl x = (pre ++ v) ++ vs.flatten := by rw [hx, List.flatten_cons, List.append_assoc]
    have ih := fun st res hst => strip_run x vs (pre ++ v) st res (fun u hu => h u (List.mem_cons_of_mem _ hu)) hx' hst
    have hcut : ((tl x).drop st).take (pre.length - st) = pre.drop st := by
      rw [hx, List.drop_append_of_le_length hst, List.take_append_of_le_length (by simp), List.take_of_length_le (by simp)]
    have plain : vis v = v → ∃ st' res', (toksFrom (pre ++ v).length false vs.flatten).foldl (stripStep x) (st, none, res) = (st', none, res') ∧ st' ≤ x.length ∧ res'.flatMap tl ++ (tl x).drop st' = res.flatMap tl ++ pre.drop st ++ (v :: vs).flatMap vis := fun hvis => by
      obtain ⟨st', res', h1, h2, h3⟩ := ih st res (by rw [List.length_append]; omega)
      refine ⟨st', res', h1, h2, ?_⟩
      rw [h3, List.drop_append_of_le_length hst, List.flatMap_cons, hvis]; simp
    have quot : vis v = [] → ∃ st' res', (toksFrom (pre ++ v).length false vs.flatten).foldl (stripStep x) ((pre ++ v).length, none, if st = pre.length then res else res ++ [Txt.slice x (some (st : Int)) (some (pre.length : Int))]) = (st', none, res') ∧ st' ≤ x.length ∧
        res'.flatMap tl ++ (tl x).drop st' = res.flatMap tl ++ pre.drop st ++ (v :: vs).flatMap vis := fun hvis => by
      obtain ⟨st', res', h1, h2, h3⟩ := ih (pre ++ v).length (if st = pre.length then res else res ++ [Txt.slice x (some (st : Int)) (some (pre.length : Int))]) (Nat.le_refl _)
      refine ⟨st', res', h1, h2, ?_⟩
      rw [h3, List.drop_length, List.flatMap_cons, hvis]
      split
      · rename_i e; subst e; simp
      · rw [List.flatMap_append, List.flatMap_singleton, slice_nat x hst (by omega), hcut]; simp
    unfold Alph at hv
    simp only [List.mem_cons, List.not_mem_nil, or_false] at hv
    rcases hv with rfl | rfl | rfl | rfl | rfl | rfl | rfl | rfl | rfl | rfl
    all_goals first
      | (have q := plain rfl
         simpa [toksFrom, stripStep, Nat.add_assoc] using q)
      | (have q := quot rfl
         simpa [toksFrom, stripStep, Nat.add_assoc] using q)

theorem tl_append (x y : Str) : tl (x ++ y) = tl x ++ tl y := by show (x ++ y).cps.toList = _; rw [Str.cps_append, Array.toList_append]
theorem join_flat : ∀ l : List Str, tl (Txt.join Str.empty l) = l.flatMap tl
  | [] => rfl
  | [x] => by rw [Txt.join, StrLaws.glued_eq_join]; simp [Str.join]
  | x :: y :: r => by
    have ih := join_flat (y :: r)
    rw [Txt.join, StrLaws.glued_eq_join] at ih ⊢
    show tl (x ++ Str.empty ++ Str.join Str.empty (y :: r)) = _
    rw [Str.append_empty, List.flatMap_cons, ← ih, tl_append]

theorem has_quote (x : Str) : Txt.contains x quS = true ↔ 34 ∈ tl x := by
  unfold Txt.contains
  rw [StrLaws.found_iff]
  have hl1 : quS.length = 1 := by decide
  have ht : quS.cps.toList = [34] := by decide
  constructor
  · rintro ⟨i, h1, h2⟩
    rw [StrLaws.subAt_eq, hl1, ht] at h2
    have h2 := eq_of_beq h2
    have : 34 ∈ (x.cps.toList.drop i).take 1 := by rw [h2]; simp
    exact List.mem_of_mem_drop (List.mem_of_mem_take this)
  · intro h
    obtain ⟨i, hi, e⟩ := List.getElem_of_mem h
    refine ⟨i, by rw [hl1]; have : x.length = (tl x).length := (by simp [Str.length]); omega, ?_⟩
    rw [StrLaws.subAt_eq, hl1, ht]
    have : (x.cps.toList.drop i).take 1 = [34] := by
      rw [List.take_one, List.head?_drop, List.getElem?_eq_getElem hi, e]; rfl
    rw [this]; rfl

theorem stripped_eq (x : Str) (vs : List (List Nat)) (h : ∀ v ∈ vs, v ∈ Alph) (hx : tl x = vs.flatten) : tl (stripped x) = vs.flatMap vis := by
  unfold stripped
  split
  · obtain ⟨st', res', h1, h2, h3⟩ := strip_run x vs [] 0 [] h (by simpa using hx) (Nat.le_refl _)
    have e : stripAll x (toksFrom 0 false x.cps.toList) = (st', none, res') := by
      unfold stripAll
      rw [show x.cps.toList = vs.flatten from hx]; exact h1
    rw [join_flat]
    unfold stripRes
    rw [e]
    dsimp only
    split
    · rw [List.flatMap_append, List.flatMap_singleton, slice_from x h2, h3]; simp
    · have : (tl x).drop st' = [] := List.drop_eq_nil_iff.mpr (by have : x.length = (tl x).length := (by simp [Str.length]); omega)
      rw [this] at h3
      simpa using h3
  · rename_i hq
    rw [has_quote, hx] at hq
    rw [hx]
    clear hx
    induction vs with
    | nil => rfl
    | cons v vs ih =>
      rw [List.flatten_cons] at hq ⊢
      rw [List.flatMap_cons, ih (fun u hu => h u (List.mem_cons_of_mem _ hu)) (fun z => hq (List.mem_append_right _ z))]
      congr 1
      unfold vis
      split
      · rename_i hh
        exact absurd (List.mem_append_left _ (List.mem_of_head? hh)) hq
      · rfl

theorem checked_eq (x : Str) (vs : List (List Nat)) (h : ∀ v ∈ vs, v ∈ Alph) (hx : tl x = vs.flatten) : checked x = decide (lev 0 (vs.flatMap marks) = some 0) := by
  unfold checked
  rw [show (stripped x).cps.toList = vs.flatMap vis from stripped_eq x vs h hx, marks_run vs 0 h]

/-- a piece of a row -/
def Pc (y : Str) : Prop := y = qS ∨ tl y ∈ Alph

def pieces (opened : List Int) (i : Nat) : List (Str × Int) → List (List Nat)
  | [] => []
  | p :: r => tl (pieceText opened i p) :: pieces opened (i + 1) r

theorem text_pieces (opened : List Int) : ∀ (row : List (Str × Int)) (i : Nat), tl (textFrom opened i row) = (pieces opened i row).flatten
  | [], i => rfl
  | p :: r, i => by
    rw [textFrom, pieces, List.flatten_cons, ← text_pieces opened r (i + 1), tl_append]
theorem pieces_alph (opened : List Int) : ∀ (row : List (Str × Int)) (i : Nat), (∀ p ∈ row, Pc p.1) → ∀ v ∈ pieces opened i row, v ∈ Alph
  | [], i, _, v, hv => nomatch hv
  | p :: r, i, h, v, hv => by
    rcases List.mem_cons.mp hv with rfl | hv
    · unfold pieceText
      split
      · rename_i hq
        exact (h p (List.mem_cons_self ..)).resolve_left hq
      · split <;> decide
    · exact pieces_alph opened r (i + 1) (fun q hq => h q (List.mem_cons_of_mem _ hq)) v hv

theorem tl_inj {x y : Str} (h : tl x = tl y) : x = y := by rw [mkS_of x, mkS_of y]; exact congrArg mkS h

theorem marks_shown {opened : List Int} {i : Nat} {p : Str × Int} (hp : Pc p.1) (ho : opened.contains (i : Int) = true → p.1 = qS) : marks (tl (pieceText opened i p)) = shownAt opened i p := by
  unfold pieceText shownAt
  by_cases hq : p.1 = qS
  · rw [if_neg (not_not_intro hq)]
    have h1 : ¬ p.1 = opS := by rw [hq]; decide
    by_cases hc : opened.contains (i : Int) = true
    · rw [if_pos hc, if_pos (.inr hc)]; decide
    · rw [if_neg hc, if_neg (fun h => h.elim h1 hc), if_pos (.inr hq)]; decide
  · rw [if_pos hq]
    have hc : ¬ opened.contains (i : Int) = true := fun h => hq (ho h)
    have m0 : marks (tl p.1) = if p.1 = opS then [40] else if p.1 = clS then [41] else [] := by
      unfold marks
      by_cases h1 : p.1 = opS
      · rw [if_pos h1, h1]; decide
      · rw [if_neg h1, if_neg (fun h => h1 (tl_inj (h.trans (by decide))))]
        by_cases h2 : p.1 = clS
        · rw [if_pos h2, h2]; decide
        · rw [if_neg h2, if_neg (fun h => h2 (tl_inj (h.trans (by decide))))]
    rw [m0]
    simp only [hc, hq, or_false, Bool.false_eq_true]

theorem marks_pieces {opened : List Int} : ∀ (row : List (Str × Int)) (i : Nat), (∀ p ∈ row, Pc p.1) → (∀ k p, row[k]? = some p → opened.contains ((i + k : Nat) : Int) = true → p.1 = qS) → (pieces opened i row).flatMap marks = shownFrom opened i row
  | [], i, _, _ => rfl
  | p :: r, i, h, ho => by
    rw [pieces, List.flatMap_cons, shownFrom, marks_shown (i := i) (h p (List.mem_cons_self ..)) (ho 0 p rfl), marks_pieces r (i + 1) (fun q hq => h q (List.mem_cons_of_mem _ hq)) (fun k q hk hc => ho (k + 1) q (by simpa using hk) (by rw [show i + (k + 1) = i + 1 + k by omega]; exact hc))]

/-- what _check_parenthesis says of a filling -/
theorem check_text {opened : List Int} {row : List (Str × Int)} (h : ∀ p ∈ row, Pc p.1) (ho : ∀ (k : Nat) p, row[k]? = some p → opened.contains (k : Int) = true → p.1 = qS) :
    checked (textFrom opened 0 row) = decide (lev 0 (shownFrom opened 0 row) = some 0) := by
  rw [checked_eq _ (pieces opened 0 row) (pieces_alph opened row 0 h) (text_pieces opened row 0), marks_pieces row 0 h (fun k p hk hc => ho k p hk (by simpa using hc))]
end Mine
end
section
open PySem PySem.W PySem.W.X PySem.Calls PyProof.Rows
set_option maxRecDepth 10000
namespace Mine

def ltP (p q : Int × Int) : Bool := decide (p.1 < q.1) || (p.1 == q.1 && decide (p.2 < q.2))

theorem tuple_lt2 (l b : Addr) (p q : Int × Int) (t1 t2 u1 u2 : Tok) (n n2 : Nat) (dd dd2 : Option Addr) (sl sl2 : Array (Option Value)) :
    Meets (Builtin.«tuple.__lt__» ⟨[.ref l, .ref b], []⟩)
      (fun A R s => s.heap.get? l = some { cls := .type "tuple", dict := dd, data := .seq #[.int p.1 t1, .int p.2 t2] n, slots := sl } ∧ s.heap.get? b = some { cls := .type "tuple", dict := dd2, data := .seq #[.int q.1 u1, .int q.2 u2] n2, slots := sl2 } ∧
        R (.ok (.ret (.bool (ltP p q)))) s) :=
  .of_wp fun prog w A R s h => by
    obtain ⟨hp, g, d, tk, os⟩ := s; obtain ⟨hl, hb, h⟩ := h
    have f2 := AutoSeq1.sub_tuple_tuple
    wp_walk using wpAny_loadPart' hl, wpAny_loadPart' hb
    refine SeqAt.EqAt.int_int p.1 t1 q.1 u1 prog w _ _ ?_
    cases h1 : p.1 == q.1 with
    | true =>
      wp_walk
      refine SeqAt.EqAt.int_int p.2 t2 q.2 u2 prog w _ _ ?_
      cases h2 : p.2 == q.2 with
      | true =>
        wp_walk
        refine ⟨_, rfl, ?_⟩
        have e : ltP p q = false := by
          have e1 : p.1 = q.1 := by simpa using h1
          have e2 : p.2 = q.2 := by simpa using h2
          simp [ltP, e1, e2]
        rw [e] at h
        exact h
      | false =>
        dsimp only
        rw [if_pos (by rfl)]
        refine wpAny_bind (wpAny_rule ?_)
        refine wpAny_bind (wpAny_lt_int ?_)
        wp_walk
        refine ⟨_, rfl, ?_⟩
        have e : ltP p q = decide (p.2 < q.2) := by
          have e1 : p.1 = q.1 := by simpa using h1
          simp [ltP, e1]
        rw [e] at h
        exact h
    | false =>
      dsimp only
      rw [if_pos (by rfl)]
      refine wpAny_bind (wpAny_rule ?_)
      refine wpAny_bind (wpAny_lt_int ?_)
      wp_walk
      refine ⟨_, rfl, ?_⟩
      have e : ltP p q = decide (p.1 < q.1) := by
        simp [ltP, h1]
      rw [e] at h
      exact h

def IsPr (h : Heap) (v : Value) (p : Int × Int) : Prop := ∃ t u1 u2, v = .ref t ∧ IsTup h t [.int p.1 u1, .int p.2 u2].toArray
theorem Le.isPr {g h : Heap} (k : Le g h) {v : Value} {p : Int × Int} (x : IsPr g v p) : IsPr h v p := let ⟨t, a, b, e, r⟩ := x; ⟨t, a, b, e, r.keeps k⟩

theorem lt_pr {w : World} {A : Around} {E : Value → Shared → Prop} {s : Shared} {v u : Value} {p q : Int × Int} {Q : Value → Shared → Prop} (hv : IsPr s.heap v p) (hu : IsPr s.heap u q) (hA : A.units < cLine)
    (h : Q (.bool (ltP p q)) s) : wpAny (model PG w) A (compareOp .Lt v u) Q E s := by
  obtain ⟨a, t1, t2, rfl, ha⟩ := hv
  obtain ⟨b, u1, u2, rfl, hb⟩ := hu
  obtain ⟨⟨cls, dd, data, sl⟩, ho, hc, n, hd⟩ := ha
  obtain ⟨⟨cls2, dd2, data2, sl2⟩, ho2, hc2, n2, hd2⟩ := hb
  simp only at hc hd hc2 hd2
  subst hc hd hc2 hd2
  exact richCompare_meets_room (op := .Lt) ⟨_, ho, rfl⟩ ⟨_, ho2, rfl⟩ F.slot_tuple_lt F.entry_tuple_lt (F.args_tuple_lt_2 _ _) (tuple_lt2 a b p q t1 t2 u1 u2 n n2 dd dd2 sl sl2)
    ⟨ho, ho2, show Value.bool (ltP p q) ≠ Value.notImplemented ∧ Q (.bool (ltP p q)) s from ⟨(fun x => nomatch x), h⟩⟩ hA

abbrev PI := Int × Int
def lt (p q : PI) : Prop := p.1 < q.1 ∨ (p.1 = q.1 ∧ p.2 < q.2)
theorem ltP_iff (p q : PI) : ltP p q = true ↔ lt p q := by simp [ltP, lt]
def le (p q : PI) : Prop := ¬ lt q p
theorem le_refl (p : PI) : le p p := by unfold le lt; omega
theorem le_trans {p q r : PI} (h1 : le p q) (h2 : le q r) : le p r := by unfold le lt at *; omega
theorem le_of_lt {p q : PI} (h1 : lt p q) : le p q := by unfold le lt at *; omega
theorem le_total (p q : PI) : le p q ∨ le q p := by unfold le lt; omega
theorem lt_of_not {p q : PI} (h : ¬ lt p q) : le q p := h

def Rel (ps : List PI) (i j : Nat) : Prop := ∀ x y, ps[i]? = some x → ps[j]? = some y → le x y
def Hp (ps : List PI) : Prop := ∀ j, 0 < j → Rel ps ((j - 1) / 2) j
def HpUp (ps : List PI) (k : Nat) : Prop := (∀ j, 0 < j → j ≠ k → Rel ps ((j - 1) / 2) j) ∧ (0 < k → ∀ j, 0 < j → (j - 1) / 2 = k → Rel ps ((k - 1) / 2) j)
def HpDn (ps : List PI) (k : Nat) : Prop := (∀ j, 0 < j → j ≠ k → (j - 1) / 2 ≠ k → Rel ps ((j - 1) / 2) j) ∧ (0 < k → ∀ j, 0 < j → (j - 1) / 2 = k → Rel ps ((k - 1) / 2) j)

/-- the places i and j changed -/
def swp (ps : List PI) (i j : Nat) (x y : PI) : List PI := (ps.set i y).set j x
theorem swp_get {ps : List PI} {i j : Nat} {x y : PI} (hi : i < ps.length) (hj : j < ps.length) (m : Nat) : (swp ps i j x y)[m]? = if m = j then some x else if m = i then some y else ps[m]? := by
  unfold swp
  rw [List.getElem?_set, List.getElem?_set, List.length_set]
  by_cases h1 : j = m
  · subst h1; simp [hj]
  · rw [if_neg h1, if_neg (Ne.symm h1)]
    by_cases h2 : i = m
    · subst h2; simp [hi]
    · rw [if_neg h2, if_neg (Ne.symm h2)]
theorem swp_perm {ps : List PI} {i j : Nat} {x y : PI} (hi : ps[i]? = some x) (hj : ps[j]? = some y) : (swp ps i j x y).Perm ps := by
  obtain ⟨hi', rfl⟩ := List.getElem?_eq_some_iff.mp hi
  obtain ⟨hj', rfl⟩ := List.getElem?_eq_some_iff.mp hj
  exact List.set_set_perm hi' hj'

theorem up_step {ps : List PI} {k : Nat} {x y : PI} (H : HpUp ps k) (hk : 0 < k) (hx : ps[k]? = some x) (hy : ps[(k - 1) / 2]? = some y) (hl : lt x y) : HpUp (swp ps k ((k - 1) / 2) x y) ((k - 1) / 2) := by
  have hkl := (List.getElem?_eq_some_iff.mp hx).1
  have hpl := (List.getElem?_eq_some_iff.mp hy).1
  have g := swp_get (x := x) (y := y) hkl hpl
  refine ⟨fun j hj hjk a b ha hb => ?_, fun hp j hj hjk a b ha hb => ?_⟩
  · rw [g] at ha hb
    rw [if_neg hjk] at hb
    by_cases h1 : j = k
    · subst h1
      rw [if_pos rfl] at hb; rw [if_pos rfl] at ha
      cases hb; cases ha
      exact le_of_lt hl
    · rw [if_neg h1] at hb
      by_cases h2 : (j - 1) / 2 = (k - 1) / 2
      · rw [if_pos h2] at ha
        cases ha
        exact le_trans (le_of_lt hl) (H.1 j hj h1 y b (h2 ▸ hy) hb)
      · rw [if_neg h2] at ha
        by_cases h3 : (j - 1) / 2 = k
        · rw [if_pos h3] at ha
          cases ha
          exact H.2 hk j hj h3 _ _ hy hb
        · rw [if_neg h3] at ha
          exact H.1 j hj h1 _ _ ha hb
  · rw [g] at ha hb
    have q1 : ((k - 1) / 2 - 1) / 2 ≠ (k - 1) / 2 := by omega
    have q2 : ((k - 1) / 2 - 1) / 2 ≠ k := by omega
    rw [if_neg q1, if_neg q2] at ha
    have q3 : j ≠ (k - 1) / 2 := by omega
    rw [if_neg q3] at hb
    have hay : le a y := H.1 ((k - 1) / 2) hp (by omega) a y ha hy
    by_cases h1 : j = k
    · subst h1
      rw [if_pos rfl] at hb
      cases hb; exact hay
    · rw [if_neg h1] at hb
      exact le_trans hay (H.1 j hj h1 y b (hjk ▸ hy) hb)

theorem up_stop {ps : List PI} {k : Nat} {x : PI} (H : HpUp ps k) (hx : ps[k]? = some x) (hs : 0 < k → ∃ y, ps[(k - 1) / 2]? = some y ∧ ¬ lt x y) : Hp ps := by
  intro j hj a b ha hb
  by_cases h1 : j = k
  · subst h1
    obtain ⟨y, hy, hn⟩ := hs hj
    rw [hy] at ha; rw [hx] at hb
    cases ha; cases hb
    exact hn
  · exact H.1 j hj h1 a b ha hb

theorem dn_step {ps : List PI} {k c : Nat} {x y : PI} (H : HpDn ps k) (hc : c = 2 * k + 1 ∨ c = 2 * k + 2) (hx : ps[k]? = some x) (hy : ps[c]? = some y)
    (hmin : ∀ d z, (d = 2 * k + 1 ∨ d = 2 * k + 2) → ps[d]? = some z → le y z) : HpDn (swp ps k c x y) c := by
  have hkl := (List.getElem?_eq_some_iff.mp hx).1
  have hcl := (List.getElem?_eq_some_iff.mp hy).1
  have g := swp_get (x := x) (y := y) hkl hcl
  have hpc : (c - 1) / 2 = k := by omega
  refine ⟨fun j hj hjk hjp a b ha hb => ?_, fun hp j hj hjk a b ha hb => ?_⟩
  · rw [g] at ha hb
    rw [if_neg hjk] at hb; rw [if_neg hjp] at ha
    by_cases h1 : j = k
    · subst h1
      rw [if_pos rfl] at hb; rw [if_neg (by omega)] at ha
      cases hb
      exact H.2 hj c (by omega) hpc a y ha hy
    · rw [if_neg h1] at hb
      by_cases h2 : (j - 1) / 2 = k
      · rw [if_pos h2] at ha
        cases ha
        exact hmin j b (by omega) hb
      · rw [if_neg h2] at ha
        exact H.1 j hj h1 h2 a b ha hb
  · rw [g] at ha hb
    rw [if_neg (by omega), if_pos hpc] at ha
    rw [if_neg (by omega), if_neg (by omega)] at hb
    cases ha
    exact H.1 j hj (by omega) (by omega) y b (hjk ▸ hy) hb

theorem dn_stop {ps : List PI} {k : Nat} (H : HpDn ps k) (hk : ps.length ≤ 2 * k + 1) : HpUp ps k := by
  refine ⟨fun j hj hjk a b ha hb => ?_, H.2⟩
  have := (List.getElem?_eq_some_iff.mp hb).1
  exact H.1 j hj hjk (by omega) a b ha hb

theorem push_up {ps : List PI} {x : PI} (H : Hp ps) : HpUp (ps ++ [x]) ps.length := by
  refine ⟨fun j hj hjk a b ha hb => ?_, fun hp j hj hjk a b ha hb => ?_⟩
  · have := (List.getElem?_eq_some_iff.mp hb).1
    rw [List.length_append, List.length_singleton] at this
    rw [List.getElem?_append_left (by omega)] at ha hb
    exact H j hj a b ha hb
  · have := (List.getElem?_eq_some_iff.mp hb).1
    rw [List.length_append, List.length_singleton] at this
    omega

theorem pop_dn {ps : List PI} {x : PI} (H : Hp ps) (m : Nat) : HpDn ((ps.take m).set 0 x) 0 := by
  refine ⟨fun j hj hjk hjp a b ha hb => ?_, fun h => absurd h (Nat.lt_irrefl _)⟩
  rw [List.getElem?_set_ne (Ne.symm hjp)] at ha
  rw [List.getElem?_set_ne (Ne.symm hjk)] at hb
  rw [List.getElem?_take] at ha hb
  split at ha
  · split at hb
    · exact H j hj a b ha hb
    · cases hb
  · cases ha

theorem hp_least {ps : List PI} (H : Hp ps) {x : PI} (hx : ps[0]? = some x) : ∀ y ∈ ps, le x y := by
  have key : ∀ (i : Nat) y, ps[i]? = some y → le x y := by
    intro i
    induction i using Nat.strongRecOn with
    | _ i ih =>
      intro y hy
      cases i with
      | zero => rw [hx] at hy; cases hy; exact le_refl x
      | succ i =>
        have hl := (List.getElem?_eq_some_iff.mp hy).1
        have hz : ps[(i + 1 - 1) / 2]? = some ps[(i + 1 - 1) / 2] := List.getElem?_eq_getElem (by omega)
        exact le_trans (ih _ (by omega) _ hz) (H (i + 1) (by omega) _ _ hz hy)
  intro y hy
  obtain ⟨i, hi, e⟩ := List.getElem_of_mem hy
  exact key i y (by rw [List.getElem?_eq_getElem hi, e])
end Mine
end
section
open PySem PySem.W PySem.W.X PySem.Calls PyProof.Rows
set_option maxRecDepth 10000
namespace Mine

theorem set_at' {w : World} {A : Around} {E : Value → Shared → Prop} {s : Shared} {l : Addr} {items : Array Value} {n : Nat} {k : Int} {t : Tok} {v : Value} {Q : Unit → Shared → Prop} (hl : s.heap.get? l = some (lobj items n)) (h0 : 0 ≤ k) (hfit : k < 2 ^ 63) (hn : k < items.size)
    (hQ : ∀ h', h'.get? l = some (lobj (items.setIfInBounds k.toNat v) n) → Heap.ExtBut l s.heap h' → Q () ⟨h', s.gens, s.drawn, s.toks, s.os⟩) :
    wpAny (model PG w) A (setItem (.ref l) (.int k t) v) Q E s := by
  have hty : s.TypeIs (.ref l) "list" := ⟨_, hl, rfl⟩
  unfold setItem
  try with_reducible refine wpAny_holding ?_
  first | refine wpAny_bind (wpAny_pure ?_) | skip
  refine wpAny_bind (wpAny_sequenceKey hty (by decide) ?_)
  refine wpAny_bind (wpAny_callSpecial?_slot (name := Str.ofString "__setitem__") hty slot_list_setitem
    (wpAny_call_entry slot_list_setitem hty entry_list_setitem ?_ (args_list_setitem _ _ _)))
  show wpAny _ _ (Builtin.List.listSubscript? (.int k t) >>= _) _ _ s
  refine wpAny_bind (wpAny_listSubscript_int (fitsIndex_of h0 hfit) ?_)
  clear hfit
  obtain ⟨j, rfl⟩ := Int.eq_ofNat_of_zero_le h0
  have hj : j < items.size := by omega
  have hx' : items[j]? = some items[j] := Array.getElem?_eq_getElem hj
  show wpAny _ _ ((seqItemAt l j >>= fun r => pure (r.map (j, ·))) >>= _) _ _ s
  refine wpAny_bind (wpAny_bind (wpAny_seqItemAt hl rfl (wpAny_pure ?_)))
  rw [hx']
  show wpAny _ _ (setSeqItemAt l j v >>= _) _ _ s
  have hfin : (s.heap.update l (Obj.mapSeq (·.setIfInBounds j v))).get? l = some (lobj (items.setIfInBounds j v) n) := by
    have := IsL.update (h := s.heap) (l := l) (items := items) (n := n) hl (·.setIfInBounds j v)
    rw [if_pos (by simp)] at this
    exact this
  refine wpAny_bind (wpAny_setSeqItemAt hl rfl ?_)
  first
    | exact wpAny_bind (wpAny_pure (wpAny_pure ⟨.none, rfl, wpAny_pure (hQ _ hfin (Heap.SameBut.update ..).extBut)⟩))
    | exact wpAny_pure ⟨.none, rfl, wpAny_pure (hQ _ hfin (Heap.SameBut.update ..).extBut)⟩
theorem set_at {w : World} {A : Around} {E : Value → Shared → Prop} {s : Shared} {l : Addr} {vs : List Value} {n : Nat} {j : Nat} {t : Tok} {v : Value} {Q : Unit → Shared → Prop} (hl : s.heap.get? l = some (lobj vs.toArray n)) (hj : j < vs.length) (hfit : vs.length ≤ 100)
    (hQ : ∀ h', h'.get? l = some (lobj (vs.set j v).toArray n) → Heap.ExtBut l s.heap h' → Q () ⟨h', s.gens, s.drawn, s.toks, s.os⟩) :
    wpAny (model PG w) A (setItem (.ref l) (.int (j : Nat) t) v) Q E s := by
  refine set_at' hl (by omega) (by omega) (by rw [List.size_toArray]; omega) fun h' hh hx => hQ h' ?_ hx
  rw [hh]; simp

/-- an old object that the call may change -/
theorem St.free {g : Heap} {L : Addr} {m : Str → Option Value} {own : List (Addr × Obj)} {h : Heap} (S : St g L m own h) {l : Addr} {o : Obj} (hl : g.get? l = some o) : St (hideAll g [l]) L m ((l, o) :: own) h := by
  refine ⟨S.ns, fun b ob e => S.keep b ob (of_hideAll _ e), ?_, fun q hq => ?_, ?_⟩
  · cases e : (hideAll g [l]).get? L with
    | none => rfl
    | some ob => have := of_hideAll _ e; rw [S.off] at this; cases this
  · rcases List.mem_cons.mp hq with rfl | hq
    · exact ⟨S.keep _ _ hl, hideAll_none _ (.head _), S.ne hl⟩
    · refine ⟨(S.obj q hq).1, ?_, (S.obj q hq).2.2⟩
      cases e : (hideAll g [l]).get? q.1 with
      | none => rfl
      | some ob => have := of_hideAll _ e; rw [(S.obj q hq).2.1] at this; cases this
  · rw [List.map_cons]
    refine List.nodup_cons.mpr ⟨fun hm => ?_, S.apart⟩
    obtain ⟨q, hq, e⟩ := List.mem_map.mp hm
    have := (S.obj q hq).2.1
    have e' : q.1 = l := e
    rw [e', hl] at this; cases this

theorem le_hide {g h : Heap} {l : Addr} (hle : Le g h) (hl : g.get? l = none) : Le g (hideAll h [l]) := fun b o e => hideAll_get _ (hle b o e) fun hm => by
  rw [List.mem_singleton.mp hm, hl] at e; cases e
theorem keepBut_hide {h h' : Heap} {l : Addr} (hle : Le (hideAll h [l]) h') : KeepBut [l] h h' := fun b o hb e => hle b o (hideAll_get _ e hb)

theorem paired_set {α β : Type} {F : α → β → Prop} : ∀ {l₁ : List α} {l₂ : List β}, Paired F l₁ l₂ → ∀ (i : Nat) {a : α} {b : β}, F a b → Paired F (l₁.set i a) (l₂.set i b)
  | _, _, .nil, _, _, _, _ => .nil
  | _, _, .cons _ r, 0, _, _, h => .cons h r
  | _, _, .cons x r, i + 1, _, _, h => .cons x (paired_set r i h)
theorem paired_get' {α β : Type} {F : α → β → Prop} : ∀ {l₁ : List α} {l₂ : List β}, Paired F l₁ l₂ → ∀ {i : Nat} {b : β}, l₂[i]? = some b → ∃ a, l₁[i]? = some a ∧ F a b
  | _, _, .nil, i, a, h => by simp at h
  | _, _, .cons x r, 0, a, h => ⟨_, rfl, by simp at h; subst h; exact x⟩
  | _, _, .cons x r, i + 1, a, h => paired_get' r (by simpa using h)

set_option maxHeartbeats 8000000 in
theorem siftdown_spec {w : World} {mg mb : Str → Option Value} {A : Around} {R : Result → Shared → Prop} {s : Shared} {g : Heap} (B : Bas w mg mb g) (hle : Le g s.heap) (F : Fine A 3) {l : Addr} {vs : List Value} {ps : List PI} {n k : Nat} {t1 t2 : Tok}
    (hlg : g.get? l = none) (hl : s.heap.get? l = some (lobj vs.toArray n)) (hps : Paired (IsPr g) vs ps) (hlen : vs.length ≤ 100) (hk : k < vs.length) (H : HpUp ps k)
    (h : ∀ s' vs' ps' n', s'.heap.get? l = some (lobj vs'.toArray n') → Paired (IsPr g) vs' ps' → ps'.Perm ps → Hp ps' → KeepBut [l] s.heap s'.heap → s'.gens = s.gens → s'.os = s.os → s'.drawn = s.drawn → R (.ok (.ret .none)) s') :
    codeAny (model PG w) A (.call (.ref 56) ⟨[.ref l, .int 0 t1, .int (k : Nat) t2], []⟩) R s := by
  obtain ⟨hp, gens, d, tk, os⟩ := s
  refine enter (fd := fdI 7 (.str "cpy313.heapq" 221) (.ref 55)) (binds := [("heap", .ref l), ("startpos", .int 0 t1), ("pos", .int (k : Nat) t2)]) (B.keeps hle) F.room (ho := rfl) rfl rfl rfl (fun h₁ E S B₁ => ?_) (locs rfl) rfl rfl rfl (by decide)
  dsimp only at S hle hl h ⊢
  generalize hp.objs.size = L at S ⊢
  have F' := F.deeper (envAt (fdI 7 (.str "cpy313.heapq" 221) (.ref 55)) L 56)
  generalize A.deeper (envAt (fdI 7 (.str "cpy313.heapq" 221) (.ref 55)) L 56) = A' at F' ⊢
  have S := S.free hl
  have hgk : Le g (hideAll hp [l]) := le_hide hle hlg
  obtain ⟨v, hv⟩ : ∃ v, vs[k]? = some v := ⟨vs[k], List.getElem?_eq_getElem hk⟩
  obtain ⟨x, hx, hvx⟩ := paired_get hps hv
  refine wpAny_execs_cons (wpAny_Assign_Name (Subscript_ (nm S rfl (nm S rfl (item_list ⟨_, S.at 0 rfl, rfl, _, rfl⟩ (by omega) (by omega) (by simpa using hv) (sn S fun h₂ S₂ => ?_))))))
  dsimp only at S₂ ⊢
  refine wpAny_execs_cons (wpAny_While (codeAny_whileLoop (fun r s => ∃ h tk m vs' ps' k' t2, s = ⟨h, gens, d, tk, os⟩ ∧ r = k' ∧ k' < vs'.length ∧ vs'.length = vs.length ∧ St (hideAll hp [l]) L m [(l, lobj vs'.toArray n)] h ∧
      m "heap" = some (.ref l) ∧ m "startpos" = some (.int 0 t1) ∧ m "pos" = some (.int (k' : Nat) t2) ∧ m "newitem" = some v ∧ Paired (IsPr g) (vs'.set k' v) ps' ∧ ps'.Perm ps ∧ HpUp ps' k')
    ?_ k ⟨h₂, _, _, vs, ps, k, t2, rfl, rfl, hk, rfl, S₂, rfl, rfl, rfl, rfl, ?_, .refl _, H⟩))
  · rintro r s' ⟨h₃, tk₃, m, vs', ps', k', t3, rfl, rfl, hk', hlen', S₃, mh, ms, mp, mn, hps', hperm, H'⟩
    have hpl : ps'.length = vs'.length := by rw [← paired_length hps', List.length_set]
    have hvk : (vs'.set r v)[r]? = some v := by rw [List.getElem?_set, if_pos rfl, if_pos hk']
    obtain ⟨x', hx', hvx'⟩ := paired_get hps' hvk
    -- behind the loop
    have fin : ∀ (E : Value → Shared → Prop) (h₄ : Heap) (tk₄ : Nat) (m : Str → Option Value), St (hideAll hp [l]) L m [(l, lobj vs'.toArray n)] h₄ → m "heap" = some (.ref l) → m "pos" = some (.int (r : Nat) t3) → m "newitem" = some v → Hp ps' →
        wpAny (model PG w) A' (execs ((dB 7).drop 2) (envAt (fdI 7 (.str "cpy313.heapq" 221) (.ref 55)) L 56)) (fun fl s' => R (.ok (.ret (match fl with | .ret v => v | _ => .none))) s') E ⟨h₄, gens, d, tk₄, os⟩ := by
      intro E h₄ tk₄ m S₄ mh mp mn hH
      refine wpAny_execs_cons (wpAny_Assign_Subscript (nm S₄ mn (nm S₄ mh (nm S₄ mp (set_at (S₄.at 0 rfl) hk' (by omega) fun h₅ hn₅ hs₅ => ?_)))))
      have S₅ := S₄.upd 0 rfl hs₅ hn₅
      exact wpAny_execs_nil (h _ _ ps' n hn₅ hps' hperm hH (keepBut_hide S₅.keep) rfl rfl rfl)
    refine wpAny_isTrue_Compare1 (nm S₃ mp (nm S₃ ms (gt_int (wpAny_truthy_bool ?_))))
    by_cases hr : 0 < r
    · rw [if_pos (by rw [decide_eq_true_eq]; omega)]
      have hq : (r - 1) / 2 < vs'.length := by omega
      have hqr : (r - 1) / 2 ≠ r := by omega
      obtain ⟨u, hu⟩ : ∃ u, vs'[(r - 1) / 2]? = some u := ⟨_, List.getElem?_eq_getElem hq⟩
      obtain ⟨y, hy, hvy⟩ := paired_get hps' (show (vs'.set r v)[(r - 1) / 2]? = some u by rw [List.getElem?_set_ne (Ne.symm hqr)]; exact hu)
      refine wpAny_execs_cons (wpAny_Assign_Name (wpAny_BinOp (wpAny_BinOp (nm S₃ mp (wpAny_Constant_int (sub_int (wpAny_Constant_int (wpAny_rshift1_int (by omega) (sn S₃ fun h₄ S₄ => ?_)))))))))
      rw [show ((r : Int) - 1) / 2 = (((r - 1) / 2 : Nat) : Int) by omega] at S₄
      dsimp only at S₄ ⊢
      refine wpAny_execs_cons (wpAny_Assign_Name (Subscript_ (nm S₄ mh (nm S₄ rfl (item_list ⟨_, S₄.at 0 rfl, rfl, _, rfl⟩ (by omega) (by omega) (by rw [Int.toNat_natCast]; simpa using hu) (sn S₄ fun h₅ S₅ => ?_))))))
      dsimp only at S₅ ⊢
      have hg5 : Le g h₅ := hgk.trans S₅.keep
      refine wpAny_execs_cons (wpAny_If (wpAny_isTrue_Compare1 (nm S₅ mn (nm S₅ rfl (lt_pr (hg5.isPr hvx') (hg5.isPr hvy) (by have := F'.units; omega) (wpAny_truthy_bool ?_))))))
      by_cases hlt : lt x' y
      · rw [if_pos ((ltP_iff _ _).mpr hlt)]
        refine wpAny_execs_cons (wpAny_Assign_Subscript (nm S₅ rfl (nm S₅ mh (nm S₅ mp (set_at (S₅.at 0 rfl) hk' (by omega) fun h₆ hn₆ hs₆ => ?_)))))
        have S₆ := S₅.upd 0 rfl hs₆ hn₆
        refine wpAny_execs_cons (wpAny_Assign_Name (nm S₆ rfl (sn S₆ fun h₇ S₇ => ?_)))
        refine wpAny_execs_cons (wpAny_Continue ⟨(r - 1) / 2, by omega, h₇, _, _, vs'.set r u, swp ps' r ((r - 1) / 2) x' y, (r - 1) / 2, _, rfl, rfl, by rw [List.length_set]; exact hq, by rw [List.length_set]; exact hlen', S₇, mh, ms, rfl, mn, ?_, (swp_perm hx' hy).trans hperm, up_step H' hr hx' hy hlt⟩)
        have e : (vs'.set r u).set ((r - 1) / 2) v = ((vs'.set r v).set r u).set ((r - 1) / 2) v := by rw [List.set_set]
        rw [e]
        exact paired_set (paired_set hps' r hvy) _ hvx'
      · rw [if_neg (by rw [ltP_iff]; exact hlt)]
        refine wpAny_execs_nil (wpAny_execs_cons (wpAny_Break ?_))
        exact fin _ _ _ _ S₅ mh mp mn (up_stop H' hx' fun _ => ⟨y, hy, hlt⟩)
    · rw [if_neg (by rw [decide_eq_true_eq]; omega)]
      refine wpAny_execs_nil ?_
      exact fin _ _ _ _ S₃ mh mp mn (up_stop H' hx' fun z => absurd z hr)
  · rw [show vs.set k v = vs from by
      apply List.ext_getElem?
      intro i
      rw [List.getElem?_set]
      split
      · rename_i e; subst e; rw [hv]
      · rfl]
    exact hps
end Mine
end
section
open PySem PySem.W PySem.W.X PySem.Calls PyProof.Rows
set_option maxRecDepth 10000
namespace Mine

theorem set_same {α : Type} {vs : List α} {k : Nat} {v : α} (hv : vs[k]? = some v) : vs.set k v = vs := by
  apply List.ext_getElem?
  intro i
  rw [List.getElem?_set]
  split
  · rename_i e; subst e; rw [hv]; rw [if_pos (List.getElem?_eq_some_iff.mp hv).1]
  · rfl

def upB : List Stmt := match ((dB 8)[4]? : Option Stmt) with | some (.While _ b _ _) => b | _ => []

def UpI (g hp : Heap) (L l : Addr) (v : Value) (t1 : Tok) (len n : Nat) (ps : List PI) (gens : Array GenState) (d : Drawn) (os : OsState) (r : Nat) (s : Shared) : Prop :=
  ∃ (h : Heap) (tk : Nat) (m : Str → Option Value) (vs' : List Value) (ps' : List PI) (k' : Nat) (t2 t3 t4 : Tok), s = ⟨h, gens, d, tk, os⟩ ∧ r = len - k' ∧ k' < vs'.length ∧ vs'.length = len ∧ St (hideAll hp [l]) L m [(l, lobj vs'.toArray n)] h ∧
      m "heap" = some (.ref l) ∧ m "startpos" = some (.int 0 t1) ∧ m "pos" = some (.int (k' : Nat) t2) ∧ m "newitem" = some v ∧ m "endpos" = some (.int (len : Nat) t3) ∧ m "childpos" = some (.int ((2 * k' + 1 : Nat) : Nat) t4) ∧ Paired (IsPr g) (vs'.set k' v) ps' ∧ ps'.Perm ps ∧ HpDn ps' k'

set_option maxHeartbeats 8000000 in
theorem siftup_spec {w : World} {mg mb : Str → Option Value} {A : Around} {R : Result → Shared → Prop} {s : Shared} {g : Heap} (B : Bas w mg mb g) (hle : Le g s.heap) (F : Fine A 5) {l : Addr} {vs : List Value} {ps : List PI} {n : Nat} {t1 : Tok}
    (hlg : g.get? l = none) (hl : s.heap.get? l = some (lobj vs.toArray n)) (hps : Paired (IsPr g) vs ps) (hlen : vs.length ≤ 100) (hk : 0 < vs.length) (H : HpDn ps 0)
    (h : ∀ s' vs' ps' n', s'.heap.get? l = some (lobj vs'.toArray n') → Paired (IsPr g) vs' ps' → ps'.Perm ps → Hp ps' → KeepBut [l] s.heap s'.heap → s'.gens = s.gens → s'.os = s.os → s'.drawn = s.drawn → R (.ok (.ret .none)) s') :
    codeAny (model PG w) A (.call (.ref 63) ⟨[.ref l, .int 0 t1], []⟩) R s := by
  obtain ⟨hp, gens, d, tk, os⟩ := s
  refine enter (fd := fdI 8 (.str "cpy313.heapq" 221) (.ref 62)) (binds := [("heap", .ref l), ("pos", .int 0 t1)]) (B.keeps hle) F.room (ho := rfl) rfl rfl rfl (fun h₁ E S B₁ => ?_) (locs rfl) rfl rfl rfl (by decide)
  dsimp only at S hle hl h ⊢
  generalize hp.objs.size = L at S ⊢
  have F' := F.deeper (envAt (fdI 8 (.str "cpy313.heapq" 221) (.ref 62)) L 63)
  generalize A.deeper (envAt (fdI 8 (.str "cpy313.heapq" 221) (.ref 62)) L 63) = A' at F' ⊢
  have S := S.free hl
  have hgk : Le g (hideAll hp [l]) := le_hide hle hlg
  have B' : Bas w mg mb (hideAll hp [l]) := B.keeps hgk
  obtain ⟨v, hv⟩ : ∃ v, vs[0]? = some v := ⟨vs[0], List.getElem?_eq_getElem hk⟩
  obtain ⟨x, hx, hvx⟩ := paired_get hps hv
  refine wpAny_execs_cons (wpAny_Assign_Name (wpAny_Call_NameR (bn B' S rfl boot_len (callWith_builtin1 (nm S rfl (len_list ⟨_, S.at 0 rfl, rfl, _, rfl⟩ (by rw [List.size_toArray]; omega) (sn S fun h₂ S₂ => ?_)))))))
  rw [List.size_toArray] at S₂
  dsimp only at S₂ ⊢
  refine wpAny_execs_cons (wpAny_Assign_Name (nm S₂ rfl (sn S₂ fun h₃ S₃ => ?_)))
  dsimp only at S₃ ⊢
  refine wpAny_execs_cons (wpAny_Assign_Name (Subscript_ (nm S₃ rfl (nm S₃ rfl (item_list ⟨_, S₃.at 0 rfl, rfl, _, rfl⟩ (by omega) (by omega) (by simpa using hv) (sn S₃ fun h₄ S₄ => ?_))))))
  dsimp only at S₄ ⊢
  refine wpAny_execs_cons (wpAny_Assign_Name (wpAny_BinOp (wpAny_BinOp (wpAny_Constant_int (nm S₄ rfl (mul_int (wpAny_Constant_int (add_int (sn S₄ fun h₅ S₅ => ?_)))))))))
  dsimp only at S₅ ⊢
  rw [show ((2 : Int) * 0 + 1) = ((2 * 0 + 1 : Nat) : Int) by decide] at S₅
  refine wpAny_execs_cons (wpAny_While (codeAny_whileLoop (UpI g hp L l v t1 vs.length n ps gens d os)
    ?_ (vs.length - 0) ⟨h₅, _, _, vs, ps, 0, t1, _, _, rfl, rfl, hk, rfl, S₅, rfl, rfl, rfl, rfl, rfl, rfl, ?_, .refl _, H⟩))
  · rintro r s' ⟨h₆, tk₆, m, vs', ps', k, t2, t3, t4, rfl, rfl, hk', hlen', S₆, mh, ms, mp, mn, me, mc, hps', hperm, H'⟩
    have hpl : ps'.length = vs'.length := by rw [← paired_length hps', List.length_set]
    have hvk : (vs'.set k v)[k]? = some v := by rw [List.getElem?_set, if_pos rfl, if_pos hk']
    obtain ⟨x', hx', hvx'⟩ := paired_get hps' hvk
    have at' : ∀ (c : Nat) (z : PI), c ≠ k → ps'[c]? = some z → ∃ u, vs'[c]? = some u ∧ IsPr g u z := fun c z hc hz => by
      obtain ⟨u, hu, hz'⟩ := paired_get' hps' hz
      exact ⟨u, by rw [List.getElem?_set_ne (Ne.symm hc)] at hu; exact hu, hz'⟩
    refine wpAny_isTrue_Compare1 (nm S₆ mc (nm S₆ me (wpAny_lt_int (wpAny_truthy_bool ?_))))
    by_cases hr : 2 * k + 1 < vs.length
    · rw [if_pos (by rw [decide_eq_true_eq]; omega)]
      -- the turn's end, when the child is chosen
      have tail : ∀ (E : Value → Shared → Prop) (h₇ : Heap) (tk₇ : Nat) (m : Str → Option Value) (c : Nat) (tc : Tok) (y : PI), (c = 2 * k + 1 ∨ c = 2 * k + 2) → ps'[c]? = some y → (∀ d z, (d = 2 * k + 1 ∨ d = 2 * k + 2) → ps'[d]? = some z → le y z) →
          St (hideAll hp [l]) L m [(l, lobj vs'.toArray n)] h₇ → m "heap" = some (.ref l) → m "startpos" = some (.int 0 t1) → m "pos" = some (.int (k : Nat) t2) → m "newitem" = some v → m "endpos" = some (.int (vs.length : Nat) t3) → m "childpos" = some (.int (c : Nat) tc) →
          wpAny (model PG w) A' (execs (upB.drop 2) (envAt (fdI 8 (.str "cpy313.heapq" 221) (.ref 62)) L 63)) (fun f s₃ => match f with
            | .next | .cont => ∃ m, m < vs.length - k ∧ UpI g hp L l v t1 vs.length n ps gens d os m s₃
            | .brk => False
            | .ret v => False) E ⟨h₇, gens, d, tk₇, os⟩ := by
        intro E h₇ tk₇ m c tc y hc hy hmin S₇ mh ms mp mn me mc
        obtain ⟨u, hu, huy⟩ := at' c y (by omega) hy
        have hcl : c < vs'.length := (List.getElem?_eq_some_iff.mp hu).1
        refine wpAny_execs_cons (wpAny_Assign_Subscript (Subscript_ (nm S₇ mh (nm S₇ mc (item_list ⟨_, S₇.at 0 rfl, rfl, _, rfl⟩ (by omega) (by omega) (by rw [Int.toNat_natCast]; simpa using hu) (nm S₇ mh (nm S₇ mp (set_at (S₇.at 0 rfl) hk' (by omega) fun h₈ hn₈ hs₈ => ?_))))))))
        have S₈ := S₇.upd 0 rfl hs₈ hn₈
        refine wpAny_execs_cons (wpAny_Assign_Name (nm S₈ mc (sn S₈ fun h₉ S₉ => ?_)))
        dsimp only at S₉ ⊢
        refine wpAny_execs_cons (wpAny_Assign_Name (wpAny_BinOp (wpAny_BinOp (wpAny_Constant_int (nm S₉ rfl (mul_int (wpAny_Constant_int (add_int (sn S₉ fun h₁₀ S₁₀ => ?_)))))))))
        dsimp only at S₁₀ ⊢
        rw [show ((2 : Int) * (c : Int) + 1) = ((2 * c + 1 : Nat) : Int) by omega] at S₁₀
        refine wpAny_execs_nil ⟨vs.length - c, by omega, h₁₀, _, _, vs'.set k u, swp ps' k c x' y, c, _, _, _, rfl, rfl, by rw [List.length_set]; exact hcl, by rw [List.length_set]; exact hlen', S₁₀, mh, ms, rfl, mn, me, rfl, ?_, (swp_perm hx' hy).trans hperm, dn_step H' hc hx' hy hmin⟩
        have e : (vs'.set k u).set c v = ((vs'.set k v).set k u).set c v := by rw [List.set_set]
        rw [e]
        exact paired_set (paired_set hps' k huy) _ hvx'
      refine wpAny_execs_cons (wpAny_Assign_Name (wpAny_BinOp (nm S₆ mc (wpAny_Constant_int (add_int (sn S₆ fun h₇ S₇ => ?_))))))
      dsimp only at S₇ ⊢
      rw [show (((2 * k + 1 : Nat) : Int) + 1) = ((2 * k + 2 : Nat) : Int) by omega] at S₇
      obtain ⟨y, hy⟩ : ∃ y, ps'[2 * k + 1]? = some y := ⟨_, List.getElem?_eq_getElem (by omega)⟩
      obtain ⟨u, hu, huy⟩ := at' (2 * k + 1) y (by omega) hy
      have hg7 : Le g h₇ := hgk.trans S₇.keep
      refine wpAny_execs_cons (wpAny_If (wpAny_isTrue_BoolOp (wpAny_allTrue_And_cons (wpAny_isTrue_Compare1 (nm S₇ rfl (nm S₇ me (wpAny_lt_int (wpAny_truthy_bool ?_))))))))
      by_cases hr2 : 2 * k + 2 < vs.length
      · rw [if_pos (by rw [decide_eq_true_eq]; omega)]
        obtain ⟨z, hz⟩ : ∃ y, ps'[2 * k + 2]? = some y := ⟨_, List.getElem?_eq_getElem (by omega)⟩
        obtain ⟨u2, hu2, hu2z⟩ := at' (2 * k + 2) z (by omega) hz
        refine wpAny_allTrue_And_cons (wpAny_isTrue_Not (wpAny_isTrue_Compare1 (Subscript_ (nm S₇ mh (nm S₇ mc (item_list ⟨_, S₇.at 0 rfl, rfl, _, rfl⟩ (by omega) (by omega) (by rw [Int.toNat_natCast]; simpa using hu)
          (Subscript_ (nm S₇ mh (nm S₇ rfl (item_list ⟨_, S₇.at 0 rfl, rfl, _, rfl⟩ (by omega) (by omega) (by rw [Int.toNat_natCast]; simpa using hu2) (lt_pr (hg7.isPr huy) (hg7.isPr hu2z) (by have := F'.units; omega) (wpAny_truthy_bool ?_))))))))))))
        by_cases hlt : lt y z
        · rw [(ltP_iff y z).mpr hlt, if_neg (by simp), if_neg (by simp)]
          refine wpAny_execs_nil (wpAny_mono (tail _ _ _ _ (2 * k + 1) t4 y (.inl rfl) hy ?_ S₇ mh ms mp mn me mc) (fun f s₃ hf => ?_) fun _ _ e => e)
          · rintro d z' (rfl | rfl) hz'
            · rw [hy] at hz'; cases hz'; exact le_refl y
            · rw [hz] at hz'; cases hz'; exact le_of_lt hlt
          · cases f with
            | next => exact hf
            | cont => exact hf
            | brk => exact hf.elim
            | ret v => exact hf.elim
        · have hlf : ltP y z = false := by rw [← Bool.not_eq_true, ltP_iff]; exact hlt
          rw [hlf, if_pos (by simp)]
          refine wpAny_allTrue_And_nil ?_
          rw [if_pos rfl]
          refine wpAny_execs_cons (wpAny_Assign_Name (nm S₇ rfl (sn S₇ fun h₈ S₈ => wpAny_execs_nil ?_)))
          refine wpAny_mono (tail _ _ _ _ (2 * k + 2) _ z (.inr rfl) hz ?_ S₈ mh ms mp mn me rfl) (fun f s₃ hf => ?_) fun _ _ e => e
          · rintro d z' (rfl | rfl) hz'
            · rw [hy] at hz'; cases hz'; exact lt_of_not hlt
            · rw [hz] at hz'; cases hz'; exact le_refl z
          · cases f with
            | next => exact hf
            | cont => exact hf
            | brk => exact hf.elim
            | ret v => exact hf.elim
      · rw [if_neg (by rw [decide_eq_true_eq]; omega), if_neg (by simp)]
        refine wpAny_execs_nil (wpAny_mono (tail _ _ _ _ (2 * k + 1) t4 y (.inl rfl) hy ?_ S₇ mh ms mp mn me mc) (fun f s₃ hf => ?_) fun _ _ e => e)
        · rintro d z' (rfl | rfl) hz'
          · rw [hy] at hz'; cases hz'; exact le_refl y
          · have := (List.getElem?_eq_some_iff.mp hz').1; omega
        · cases f with
          | next => exact hf
          | cont => exact hf
          | brk => exact hf.elim
          | ret v => exact hf.elim
    · rw [if_neg (by rw [decide_eq_true_eq]; omega)]
      refine wpAny_execs_nil ?_
      refine wpAny_execs_cons (wpAny_Assign_Subscript (nm S₆ mn (nm S₆ mh (nm S₆ mp (set_at (S₆.at 0 rfl) hk' (by omega) fun h₇ hn₇ hs₇ => ?_)))))
      have S₇ := S₆.upd 0 rfl hs₇ hn₇
      dsimp only at S₇ ⊢
      refine wpAny_execs_cons (wpAny_Expr (wpAny_Call_NameR (gn (v := .ref 56) B' S₇ rfl (callWith_def (o := _) (fd := fdI 7 (.str "cpy313.heapq" 221) (.ref 55)) (f := 56) rfl (wpAny_items_cons (nm S₇ mh (wpAny_items_cons (nm S₇ ms (wpAny_items_cons (nm S₇ mp (wpAny_items_nil ⟨(B'.keeps S₇.keep).X 56 _ rfl, wpAny_call ?_⟩)))))))))))
      refine siftdown_spec (s := ⟨h₇, _, _, _, _⟩) B (hgk.trans S₇.keep) F'.less hlg (S₇.at 0 rfl) hps' (by rw [List.length_set]; omega) (by rw [List.length_set]; exact hk') (dn_stop H' (by omega)) fun s' vs'' ps'' n'' hl'' hps'' hperm'' hH'' hkeep hgens hos hdr => ?_
      refine wpAny_execs_nil ?_
      exact h s' vs'' ps'' n'' hl'' hps'' (hperm''.trans hperm) hH'' ((keepBut_hide S₇.keep).trans hkeep) hgens hos hdr
  · rw [set_same hv]; exact hps
end Mine
end
section
open PySem PySem.W PySem.W.X PySem.Calls PyProof.Rows
set_option maxRecDepth 10000
namespace Mine

theorem paired_snoc {α β : Type} {F : α → β → Prop} : ∀ {l₁ : List α} {l₂ : List β}, Paired F l₁ l₂ → ∀ {a : α} {b : β}, F a b → Paired F (l₁ ++ [a]) (l₂ ++ [b])
  | _, _, .nil, _, _, h => .cons h .nil
  | _, _, .cons x r, _, _, h => .cons x (paired_snoc r h)
theorem paired_unsnoc {α β : Type} {F : α → β → Prop} : ∀ {l₁ : List α} {a : α} {l₂ : List β}, Paired F (l₁ ++ [a]) l₂ → ∃ l b, l₂ = l ++ [b] ∧ Paired F l₁ l ∧ F a b
  | [], _, _, .cons x .nil => ⟨[], _, rfl, .nil, x⟩
  | _ :: l₁, _, _, .cons x r => by
    obtain ⟨l, b, rfl, h1, h2⟩ := paired_unsnoc (l₁ := l₁) r
    exact ⟨_ :: l, b, rfl, .cons x h1, h2⟩

theorem pop_last {w : World} {A : Around} {E : Value → Shared → Prop} {s : Shared} {l : Addr} {vs : List Value} {v : Value} {n : Nat} {Q : Value → Shared → Prop} (hl : s.heap.get? l = some (lobj (vs ++ [v]).toArray n)) (hlen : vs.length ≤ 100)
    (h : ∀ h' n', h'.get? l = some (lobj vs.toArray n') → Heap.ExtBut l s.heap h' → Q v ⟨h', s.gens, s.drawn, s.toks, s.os⟩) : wpAny (model PG w) A (call (.builtin "list.pop") [.ref l]) Q E s := by
  have hz' : (vs ++ [v]).toArray.size ≤ sizeLine := by rw [List.size_toArray, List.length_append, sizeLine_eq]; simp; omega
  have hk : (vs ++ [v]).toArray.size - 1 = vs.length := by rw [List.size_toArray, List.length_append]; rfl
  have hy : (vs ++ [v]).toArray[(vs ++ [v]).toArray.size - 1]? = some v := by rw [hk]; simp
  have e : (vs ++ [v]).toArray.eraseIdxIfInBounds ((vs ++ [v]).toArray.size - 1) = vs.toArray := by
    rw [hk, kl_erase, List.append_nil]
  have this := IsL.update (h := s.heap) (l := l) (items := (vs ++ [v]).toArray) (n := n) hl (fun xs => xs.eraseIdxIfInBounds ((vs ++ [v]).toArray.size - 1))
  rw [e] at this
  exact call_meets PySem.F.slot_list_pop ⟨_, hl, rfl⟩ PySem.F.entry_list_pop (PySem.F.args_list_pop_1 _) (PySem.MeetsSeq.list_pop_last l _ n v hy hz') ⟨hl, h _ _ this (Heap.SameBut.update ..).extBut⟩

set_option maxHeartbeats 8000000 in
theorem push_spec {w : World} {mg mb : Str → Option Value} {A : Around} {R : Result → Shared → Prop} {s : Shared} {g : Heap} (B : Bas w mg mb g) (hle : Le g s.heap) (F : Fine A 5) {l : Addr} {vs : List Value} {ps : List PI} {n : Nat} {it : Value} {p : PI}
    (hlg : g.get? l = none) (hl : s.heap.get? l = some (lobj vs.toArray n)) (hps : Paired (IsPr g) vs ps) (hit : IsPr g it p) (hlen : vs.length < 100) (H : Hp ps)
    (h : ∀ s' vs' ps' n', s'.heap.get? l = some (lobj vs'.toArray n') → Paired (IsPr g) vs' ps' → ps'.Perm (p :: ps) → Hp ps' → KeepBut [l] s.heap s'.heap → s'.gens = s.gens → s'.os = s.os → s'.drawn = s.drawn → R (.ok (.ret .none)) s') :
    codeAny (model PG w) A (.call (.ref 42) ⟨[.ref l, it], []⟩) R s := by
  obtain ⟨hp, gens, d, tk, os⟩ := s
  refine enter (fd := fdI 5 (.str "cpy313.heapq" 221) (.ref 41)) (binds := [("heap", .ref l), ("item", it)]) (B.keeps hle) F.room (ho := rfl) rfl rfl rfl (fun h₁ E S B₁ => ?_) (locs rfl) rfl rfl rfl (by decide)
  dsimp only at S hle hl h ⊢
  generalize hp.objs.size = L at S ⊢
  have F' := F.deeper (envAt (fdI 5 (.str "cpy313.heapq" 221) (.ref 41)) L 42)
  generalize A.deeper (envAt (fdI 5 (.str "cpy313.heapq" 221) (.ref 41)) L 42) = A' at F' ⊢
  have S := S.free hl
  have hgk : Le g (hideAll hp [l]) := le_hide hle hlg
  have B' : Bas w mg mb (hideAll hp [l]) := B.keeps hgk
  refine wpAny_execs_cons (app_stmt S rfl (S.at 0 rfl) (nm S rfl ⟨_, ⟨_, S.at 0 rfl⟩, by rw [List.size_toArray, sizeLine_eq]; omega, fun h₂ n₂ hn₂ hs₂ => ?_⟩))
  rw [show vs.toArray.push it = (vs ++ [it]).toArray by simp] at hn₂
  have S₂ := S.upd 0 rfl hs₂ hn₂
  dsimp only at S₂ ⊢
  refine wpAny_execs_cons (wpAny_Expr (wpAny_Call_NameR (gn (v := .ref 56) B' S₂ rfl (callWith_def (o := _) (fd := fdI 7 (.str "cpy313.heapq" 221) (.ref 55)) (f := 56) rfl (wpAny_items_cons (nm S₂ rfl (wpAny_items_cons (wpAny_Constant_int (wpAny_items_cons (wpAny_BinOp (wpAny_Call_NameR (bn B' S₂ rfl boot_len (callWith_builtin1 (nm S₂ rfl (len_list ⟨_, S₂.at 0 rfl, rfl, _, rfl⟩ (by rw [List.size_toArray, List.length_append, List.length_singleton]; omega) (wpAny_Constant_int (sub_int (wpAny_items_nil ⟨(B'.keeps S₂.keep).X 56 _ rfl, wpAny_call ?_⟩))))))))))))))))))
  rw [show (((vs ++ [it]).toArray.size : Int) - 1) = ((vs.length : Nat) : Int) by rw [List.size_toArray, List.length_append, List.length_singleton]; omega]
  refine siftdown_spec (s := ⟨h₂, _, _, _, _⟩) B (hgk.trans S₂.keep) F'.less hlg (S₂.at 0 rfl) (paired_snoc hps hit) (by rw [List.length_append, List.length_singleton]; omega) (by rw [List.length_append, List.length_singleton]; omega) (by rw [paired_length hps]; exact push_up H) fun s' vs'' ps'' n'' hl'' hps'' hperm'' hH'' hkeep hgens hos hdr => ?_
  refine wpAny_execs_nil ?_
  exact h s' vs'' ps'' n'' hl'' hps'' (hperm''.trans List.perm_append_comm) hH'' ((keepBut_hide S₂.keep).trans hkeep) hgens hos hdr

set_option maxHeartbeats 8000000 in
theorem pop_spec {w : World} {mg mb : Str → Option Value} {A : Around} {R : Result → Shared → Prop} {s : Shared} {g : Heap} (B : Bas w mg mb g) (hle : Le g s.heap) (F : Fine A 7) {l : Addr} {vs : List Value} {ps : List PI} {n : Nat}
    (hlg : g.get? l = none) (hl : s.heap.get? l = some (lobj vs.toArray n)) (hps : Paired (IsPr g) vs ps) (hlen : vs.length ≤ 100) (hne : vs ≠ []) (H : Hp ps)
    (h : ∀ s' v x vs' ps' n', s'.heap.get? l = some (lobj vs'.toArray n') → Paired (IsPr g) vs' ps' → IsPr g v x → ps.Perm (x :: ps') → (∀ y ∈ ps, le x y) → Hp ps' → KeepBut [l] s.heap s'.heap → s'.gens = s.gens → s'.os = s.os → s'.drawn = s.drawn → R (.ok (.ret v)) s') :
    codeAny (model PG w) A (.call (.ref 49) ⟨[.ref l], []⟩) R s := by
  obtain ⟨hp, gens, d, tk, os⟩ := s
  refine enter (fd := fdI 6 (.str "cpy313.heapq" 221) (.ref 48)) (binds := [("heap", .ref l)]) (B.keeps hle) F.room (ho := rfl) rfl rfl rfl (fun h₁ E S B₁ => ?_) (locs rfl) rfl rfl rfl (by decide)
  dsimp only at S hle hl h ⊢
  generalize hp.objs.size = L at S ⊢
  have F' := F.deeper (envAt (fdI 6 (.str "cpy313.heapq" 221) (.ref 48)) L 49)
  generalize A.deeper (envAt (fdI 6 (.str "cpy313.heapq" 221) (.ref 48)) L 49) = A' at F' ⊢
  have S := S.free hl
  have hgk : Le g (hideAll hp [l]) := le_hide hle hlg
  have B' : Bas w mg mb (hideAll hp [l]) := B.keeps hgk
  obtain ⟨vs0, last, rfl⟩ : ∃ a b, vs = a ++ [b] := ⟨vs.dropLast, vs.getLast hne, (List.dropLast_concat_getLast hne).symm⟩
  obtain ⟨ps0, q, rfl, hps0, hlast⟩ := paired_unsnoc hps
  rw [List.length_append, List.length_singleton] at hlen
  refine wpAny_execs_cons (wpAny_Assign_Name (MethodCall_ (nm S rfl (getMethod_builtin ⟨_, S.at 0 rfl, rfl⟩ PySem.F.plainAttrs_list PySem.F.slot_list_pop PySem.F.type_list_pop (fun a e => by cases e; exact ⟨_, S.at 0 rfl, rfl⟩) (callWith_method0 (pop_last (S.at 0 rfl) (by omega) fun h₂ n₂ hn₂ hs₂ => ?_))))))
  have S₂ := S.upd 0 rfl hs₂ hn₂
  refine sn S₂ fun h₃ S₃ => ?_
  dsimp only at S₃ ⊢
  refine wpAny_execs_cons (wpAny_If (wpAny_isTrue_value (nm S₃ rfl (wpAny_truthy_list ⟨_, S₃.at 0 rfl, rfl, _, rfl⟩ (by rw [List.size_toArray]; omega) ?_))))
  cases vs0 with
  | nil =>
    rw [if_neg (by simp)]
    cases hps0
    refine wpAny_execs_nil (wpAny_execs_cons (wpAny_Return_some (nm S₃ rfl ?_)))
    exact h _ last q [] [] n₂ (S₃.at 0 rfl) .nil hlast (.refl _) (hp_least H rfl) (fun j hj a b ha => by simp at ha) (keepBut_hide S₃.keep) rfl rfl rfl
  | cons v vs1 =>
    rw [if_pos (by simp)]
    obtain ⟨x, ps1, rfl⟩ : ∃ x ps1, ps0 = x :: ps1 := by cases hps0 with | cons a b => exact ⟨_, _, rfl⟩
    have hvx : IsPr g v x := by cases hps0 with | cons a b => exact a
    have hr1 : Paired (IsPr g) vs1 ps1 := by cases hps0 with | cons a b => exact b
    rw [List.length_cons] at hlen
    refine wpAny_execs_cons (wpAny_Assign_Name (Subscript_ (nm S₃ rfl (wpAny_Constant_int (item_list ⟨_, S₃.at 0 rfl, rfl, _, rfl⟩ (by omega) (by omega) (by simp; rfl) (sn S₃ fun h₄ S₄ => ?_))))))
    dsimp only at S₄ ⊢
    refine wpAny_execs_cons (wpAny_Assign_Subscript (nm S₄ rfl (nm S₄ rfl (wpAny_Constant_int (set_at (j := 0) (S₄.at 0 rfl) (by simp) (by rw [List.length_cons]; omega) fun h₅ hn₅ hs₅ => ?_)))))
    have S₅ := S₄.upd 0 rfl hs₅ hn₅
    dsimp only at S₅ ⊢
    refine wpAny_execs_cons (wpAny_Expr (wpAny_Call_NameR (gn (v := .ref 63) B' S₅ rfl (callWith_def (o := _) (fd := fdI 8 (.str "cpy313.heapq" 221) (.ref 62)) (f := 63) rfl (wpAny_items_cons (nm S₅ rfl (wpAny_items_cons (wpAny_Constant_int (wpAny_items_nil ⟨(B'.keeps S₅.keep).X 63 _ rfl, wpAny_call ?_⟩)))))))))
    have hdn : HpDn (q :: ps1) 0 := by
      have := pop_dn (x := q) H (ps1.length + 1)
      simpa using this
    refine siftup_spec (s := ⟨h₅, _, _, _, _⟩) (vs := last :: vs1) B (hgk.trans S₅.keep) F'.less hlg (S₅.at 0 rfl) (.cons hlast hr1) (by rw [List.length_cons]; omega) (by simp) hdn fun s' vs'' ps'' n'' hl'' hps'' hperm'' hH'' hkeep hgens hos hdr => ?_
    obtain ⟨h₆, gens₆, d₆, tk₆, os₆⟩ := s'
    dsimp only at hl'' hkeep hgens hos hdr
    subst hgens hos hdr
    have S₆ : St _ L _ [] h₆ := St.keepBut (own := []) (rest := [(l, _)]) S₅ hkeep
    refine wpAny_execs_cons (wpAny_Return_some (nm S₆ rfl ?_))
    refine h _ v x vs'' ps'' n'' hl'' hps'' hvx ?_ (hp_least H rfl) hH'' ((keepBut_hide S₅.keep).trans hkeep) rfl rfl rfl
    refine List.Perm.trans ?_ (List.Perm.cons x hperm''.symm)
    exact List.Perm.cons x List.perm_append_comm
end Mine
end
section
open PySem PySem.W PySem.W.X PySem.Calls PyProof.Rows
set_option maxRecDepth 10000
namespace Mine

/-- the sort's questions answered by a table -/
def runB {α : Type} (n : Nat) (cmp : Nat → Nat → Bool) : KasT α → Option α
  | .ret a => some a
  | .ask i j k => if i < n ∧ j < n then runB n cmp (k (cmp i j)) else none

theorem runB_wp {α : Type} {n : Nat} {cmp : Nat → Nat → Bool} {W : Nat → Nat → (Bool → Shared → Prop) → Shared → Prop} {s : Shared} {Q : α → Shared → Prop}
    (hW : ∀ i j (C : Bool → Shared → Prop), i < n → j < n → C (cmp i j) s → W i j C s) : ∀ (t : KasT α) (a : α), runB n cmp t = some a → Q a s → t.kasWp W Q s
  | .ret b, a, h, q => by
    have : b = a := by simpa [runB] using h
    subst this; exact q
  | .ask i j k, a, h, q => by
    unfold runB at h
    split at h
    · rename_i hij
      exact hW i j _ hij.1 hij.2 (runB_wp hW (k (cmp i j)) a h q)
    · cases h

/-- the table of ranks -/
def byRank (r : List Nat) (i j : Nat) : Bool := decide (r.getD i 0 < r.getD j 0)
def goodRun (r : List Nat) : Bool :=
  match runB r.length (byRank r) (kas_sort r.length) with
  | none => false
  | some p => p.toList.map (fun i => r.getD i 0) == List.range r.length && p.toList.isPerm (List.range r.length)

def words : Nat → Nat → List (List Nat)
  | 0, _ => [[]]
  | k + 1, n => (words k n).flatMap fun w => (List.range n).map fun x => x :: w
def nodupB : List Nat → Bool
  | [] => true
  | x :: r => !r.contains x && nodupB r

theorem good2 : ((words 2 2).filter nodupB).all goodRun = true := by decide +kernel
theorem good3 : ((words 3 3).filter nodupB).all goodRun = true := by decide +kernel
theorem good4 : ((words 4 4).filter nodupB).all goodRun = true := by decide +kernel
theorem good5 : ((words 5 5).filter nodupB).all goodRun = true := by decide +kernel

theorem runB_congr {α : Type} {n : Nat} {c1 c2 : Nat → Nat → Bool} (h : ∀ i j, i < n → j < n → c1 i j = c2 i j) : ∀ t : KasT α, runB n c1 t = runB n c2 t
  | .ret _ => rfl
  | .ask i j k => by
    unfold runB
    split
    · rename_i hij
      rw [h i j hij.1 hij.2]
      exact runB_congr h _
    · rfl

theorem mem_words : ∀ {k n : Nat} {w : List Nat}, w.length = k → (∀ x ∈ w, x < n) → w ∈ words k n
  | 0, n, w, hl, _ => by rw [List.length_eq_zero_iff.mp hl]; exact .head _
  | k + 1, n, [], hl, _ => by simp at hl
  | k + 1, n, x :: w, hl, h => by
    unfold words
    refine List.mem_flatMap.mpr ⟨w, mem_words (by simpa using hl) (fun y hy => h y (List.mem_cons_of_mem _ hy)), List.mem_map.mpr ⟨x, List.mem_range.mpr (h x (List.mem_cons_self ..)), rfl⟩⟩
theorem nodupB_of : ∀ {w : List Nat}, w.Nodup → nodupB w = true
  | [], _ => rfl
  | x :: r, h => by
    obtain ⟨h1, h2⟩ := List.nodup_cons.mp h
    unfold nodupB
    simp [h1, nodupB_of h2]
theorem countP_strict {α : Type} {p q : α → Bool} (h : ∀ z, p z = true → q z = true) {a : α} (hq : q a = true) (hp : p a = false) : ∀ {l : List α}, a ∈ l → l.countP p < l.countP q
  | [], hm => nomatch hm
  | x :: l, hm => by
    rw [List.countP_cons, List.countP_cons]
    have mono : l.countP p ≤ l.countP q := List.countP_mono_left fun z _ => h z
    rcases List.mem_cons.mp hm with rfl | hm
    · rw [hq, hp]; simp; omega
    · have ih := countP_strict h hq hp hm
      cases hx : p x with
      | true => rw [h x hx]; omega
      | false => simp; omega

def rk (ps : List PI) (x : PI) : Nat := ps.countP fun y => ltP y x
theorem lt_irrefl (x : PI) : ltP x x = false := by rw [← Bool.not_eq_true, ltP_iff]; unfold lt; omega
theorem lt_trans {x y z : PI} (h1 : ltP x y = true) (h2 : ltP y z = true) : ltP x z = true := by rw [ltP_iff] at *; unfold lt at *; omega
theorem lt_total {x y : PI} (h : x ≠ y) : ltP x y = true ∨ ltP y x = true := by
  rw [ltP_iff, ltP_iff]
  unfold lt
  obtain ⟨a, b⟩ := x; obtain ⟨c, d⟩ := y
  dsimp only
  rcases Int.lt_trichotomy a c with h1 | h1 | h1
  · omega
  · subst h1
    have : b ≠ d := fun e => h (by rw [e])
    omega
  · omega
theorem rk_lt {ps : List PI} {x y : PI} (hx : x ∈ ps) (h : ltP x y = true) : rk ps x < rk ps y :=
  countP_strict (p := fun z => ltP z x) (q := fun z => ltP z y) (fun z hz => lt_trans hz h) h (lt_irrefl x) hx
theorem rk_iff {ps : List PI} {x y : PI} (hx : x ∈ ps) (hy : y ∈ ps) : ltP x y = decide (rk ps x < rk ps y) := by
  cases h : ltP x y with
  | true => exact (decide_eq_true (rk_lt hx h)).symm
  | false =>
    refine (decide_eq_false fun hlt => ?_).symm
    by_cases e : x = y
    · subst e; omega
    · rcases lt_total e with h' | h'
      · rw [h] at h'; cases h'
      · have := rk_lt hy h'; omega
theorem rk_bound {ps : List PI} {x : PI} (hx : x ∈ ps) : rk ps x < ps.length := by
  have := countP_strict (p := fun z => ltP z x) (q := fun _ => true) (fun _ _ => rfl) rfl (lt_irrefl x) hx
  rw [List.countP_true] at this
  exact this
theorem rks_nodup {ps : List PI} : ∀ {l : List PI}, (∀ x ∈ l, x ∈ ps) → l.Nodup → (l.map (rk ps)).Nodup
  | [], _, _ => List.nodup_nil
  | x :: r, hs, h => by
    obtain ⟨h1, h2⟩ := List.nodup_cons.mp h
    rw [List.map_cons]
    refine List.nodup_cons.mpr ⟨fun hm => ?_, rks_nodup (fun y hy => hs y (List.mem_cons_of_mem _ hy)) h2⟩
    obtain ⟨y, hy, e⟩ := List.mem_map.mp hm
    have hne : x ≠ y := fun e => h1 (e ▸ hy)
    rcases lt_total hne with h' | h'
    · have := rk_lt (hs x (List.mem_cons_self ..)) h'; omega
    · have := rk_lt (hs y (List.mem_cons_of_mem _ hy)) h'; omega

theorem good_rank {r : List Nat} (h2 : 2 ≤ r.length) (h5 : r.length ≤ 5) (hb : ∀ x ∈ r, x < r.length) (nd : r.Nodup) : goodRun r = true := by
  have hm : r ∈ (words r.length r.length).filter nodupB := List.mem_filter.mpr ⟨mem_words rfl hb, nodupB_of nd⟩
  have key : ∀ n, r.length = n → 2 ≤ n → n ≤ 5 → ((words n n).filter nodupB).all goodRun = true := by
    intro n _ h2 h5
    match n, h2, h5 with
    | 2, _, _ => exact good2
    | 3, _, _ => exact good3
    | 4, _, _ => exact good4
    | 5, _, _ => exact good5
  exact List.all_eq_true.mp (key r.length rfl h2 h5) r hm

abbrev at0 (ps : List PI) (i : Nat) : PI := ps.getD i (0, 0)
theorem sort_pairs {ps : List PI} (nd : ps.Nodup) (h2 : 2 ≤ ps.length) (h5 : ps.length ≤ 5) : ∃ p : Array Nat, runB ps.length (fun i j => ltP (at0 ps i) (at0 ps j)) (kas_sort ps.length) = some p ∧
    p.toList.Perm (List.range ps.length) ∧ (p.toList.map (at0 ps)).Pairwise fun x y => ltP x y = true := by
  have hr : (ps.map (rk ps)).length = ps.length := List.length_map ..
  have g := good_rank (r := ps.map (rk ps)) (by rw [hr]; exact h2) (by rw [hr]; exact h5) (fun x hx => by
    obtain ⟨y, hy, rfl⟩ := List.mem_map.mp hx
    rw [hr]; exact rk_bound hy) (rks_nodup (fun _ h => h) nd)
  have hget : ∀ i, i < ps.length → at0 ps i ∈ ps ∧ (ps.map (rk ps)).getD i 0 = rk ps (at0 ps i) := fun i hi => by
    have e : at0 ps i = ps[i] := by simp [at0, hi]
    rw [e]
    exact ⟨List.getElem_mem hi, by simp [hi]⟩
  have hc : runB ps.length (fun i j => ltP (at0 ps i) (at0 ps j)) (kas_sort ps.length) = runB ps.length (byRank (ps.map (rk ps))) (kas_sort ps.length) := by
    refine runB_congr (fun i j hi hj => ?_) _
    unfold byRank
    rw [(hget i hi).2, (hget j hj).2, rk_iff (hget i hi).1 (hget j hj).1]
  unfold goodRun at g
  rw [hr, ← hc] at g
  split at g
  · cases g
  · rename_i p hp
    rw [Bool.and_eq_true] at g
    have hperm := List.isPerm_iff.mp g.2
    refine ⟨p, hp, hperm, ?_⟩
    have hmap : p.toList.map (fun i => (ps.map (rk ps)).getD i 0) = List.range ps.length := eq_of_beq g.1
    rw [List.pairwise_map]
    have hpw : (p.toList.map (fun i => (ps.map (rk ps)).getD i 0)).Pairwise (· < ·) := by rw [hmap]; exact List.pairwise_lt_range
    rw [List.pairwise_map] at hpw
    refine List.Pairwise.imp_of_mem (fun {i j} hi hj hij => ?_) hpw
    have hi' := List.mem_range.mp (hperm.mem_iff.mp hi)
    have hj' := List.mem_range.mp (hperm.mem_iff.mp hj)
    rw [(hget i hi').2, (hget j hj').2] at hij
    rw [rk_iff (hget i hi').1 (hget j hj').1]
    exact decide_eq_true hij

theorem range_at0 (ps : List PI) : (List.range ps.length).map (at0 ps) = ps := by
  apply List.ext_getElem?
  intro i
  rw [List.getElem?_map]
  by_cases h : i < ps.length
  · rw [List.getElem?_range h, List.getElem?_eq_getElem h]
    simp [at0, h]
  · rw [List.getElem?_eq_none (by simpa using h), List.getElem?_eq_none (by simpa using h)]; rfl
theorem perm_at0 {ps : List PI} {l : List Nat} (h : l.Perm (List.range ps.length)) : (l.map (at0 ps)).Perm ps := by
  have := h.map (at0 ps)
  rw [range_at0] at this
  exact this
end Mine
end
section
open PySem PySem.W PySem.W.X PySem.Calls PyProof.Rows
set_option maxRecDepth 10000
namespace Mine

theorem IsPr.but {h h' : Heap} {a : Addr} {o : Obj} {v : Value} {p : PI} (x : IsPr h v p) (ho : h.get? a = some o) (hc : o.cls ≠ .type "tuple") (hs : Heap.ExtBut a h h') : IsPr h' v p := by
  obtain ⟨t, u1, u2, e, ht⟩ := x
  refine ⟨t, u1, u2, e, ht.extBut hs fun z => ?_⟩
  subst z
  obtain ⟨o', ho', hc', _⟩ := ht
  rw [ho] at ho'; cases ho'
  exact hc hc'

theorem keyLt_pr {w : World} {A : Around} {E : Value → Shared → Prop} {s : Shared} {v u : Value} {p q : PI} {Q : Bool → Shared → Prop} (hv : IsPr s.heap v p) (hu : IsPr s.heap u q)
    (h : Q (ltP p q) s) : wpAny (model PG w) A (keyLt' (tuples' true) v u) Q E s := by
  obtain ⟨a, t1, t2, rfl, o, ho, hc, n, hd⟩ := hv
  obtain ⟨b, u1, u2, rfl, o2, ho2, hc2, n2, hd2⟩ := hu
  refine kat_lt ho hd ho2 hd2 ?_
  show KatLex PG w A true _ Q [(.int p.1 t1, .int q.1 u1), (.int p.2 t2, .int q.2 u2)] 0 s
  refine SeqAt.EqAt.int_int p.1 t1 q.1 u1 PG w _ _ ?_
  cases h1 : p.1 == q.1 with
  | true =>
    rw [if_pos rfl]
    refine SeqAt.EqAt.int_int p.2 t2 q.2 u2 PG w _ _ ?_
    have e1 : p.1 = q.1 := by simpa using h1
    cases h2 : p.2 == q.2 with
    | true =>
      rw [if_pos rfl]
      have e2 : p.2 = q.2 := by simpa using h2
      show Q (decide (2 < 2)) s
      have : ltP p q = false := by simp [ltP, e1, e2]
      rw [this] at h
      exact h
    | false =>
      rw [if_neg (by simp)]
      refine kat_one _ _ (wpAny_lt_int ?_)
      have : ltP p q = decide (p.2 < q.2) := by simp [ltP, e1]
      rw [this] at h
      exact h
  | false =>
    rw [if_neg (by simp)]
    refine oneLt_int ?_
    have : ltP p q = decide (p.1 < q.1) := by simp [ltP, h1]
    rw [this] at h
    exact h

theorem katTups_of {h : Heap} : ∀ {vs : List Value} {ps : List PI}, Paired (IsPr h) vs ps → ∃ fs, fs.length = vs.length ∧ KatTups h vs fs ∧ ∀ f ∈ fs, ∃ i t, f = Value.int i t
  | _, _, .nil => ⟨[], rfl, trivial, fun _ h => nomatch h⟩
  | _, _, .cons (a := v) (b := p) ⟨t, u1, u2, e, o, ho, hc, n, hd⟩ r => by
    obtain ⟨fs, h1, h2, h3⟩ := katTups_of r
    subst e
    refine ⟨.int p.1 u1 :: fs, by simp [h1], KatTups.cons ho hc hd rfl h2, fun f hf => ?_⟩
    rcases List.mem_cons.mp hf with rfl | hf
    · exact ⟨_, _, rfl⟩
    · exact h3 f hf

theorem paired_pick {h : Heap} {vs : List Value} {ps : List PI} (hp : Paired (IsPr h) vs ps) : ∀ {l : List Nat}, (∀ i ∈ l, i < ps.length) → Paired (IsPr h) (l.map fun i => vs.getD i Value.none) (l.map (at0 ps))
  | [], _ => .nil
  | i :: l, hl => by
    have hi := hl i (List.mem_cons_self ..)
    obtain ⟨v, hv, hvp⟩ := paired_get' hp (List.getElem?_eq_getElem hi)
    have e1 : vs.getD i Value.none = v := by rw [List.getD_eq_getElem?_getD, hv]; rfl
    have e2 : at0 ps i = ps[i] := by simp [at0, hi]
    rw [List.map_cons, List.map_cons, e1, e2]
    exact .cons hvp (paired_pick hp fun j hj => hl j (List.mem_cons_of_mem _ hj))

set_option maxHeartbeats 4000000 in
theorem list_sort_pairs {w : World} {A : Around} {E : Value → Shared → Prop} {s : Shared} {a : Addr} {vs : List Value} {ps : List PI} {n : Nat} {P : PySem.Fin → Shared → Prop} (ho : s.heap.get? a = some (seqObj "list" vs.toArray n))
    (hps : Paired (IsPr s.heap) vs ps) (nd : ps.Nodup) (h5 : ps.length ≤ 5)
    (h : ∀ vs' ps', Paired (IsPr s.heap) vs' ps' → ps'.Perm ps → ps'.Pairwise (fun x y => ltP x y = true) → P (.done (.ret .none)) { s with heap := sortedHeap s.heap a vs vs'.toArray }) :
    wpAny (model PG w) A (Builtin.«list.sort» ⟨[.ref a], []⟩) P E s := by
  have hlen := paired_length hps
  have ha : a < s.heap.objs.size := Heap.lt_size ho
  have hs1 := Heap.SameBut.update s.heap a (Obj.mapSeq fun _ => (#[] : Array Value))
  rw [list_sort_plain]
  refine wpAny_bind (listItems_at ho rfl ?_)
  refine wpAny_bind (listUpdate_at ho rfl ?_ (by rw [List.size_toArray, sizeLine_eq]; omega) (Nat.zero_le _))
  obtain ⟨e1, ho1⟩ : ∃ e1, (s.heap.update a (Obj.mapSeq fun _ => #[])).get? a = some (seqObj "list" #[] e1) := ⟨_, get?_update_seq ho (fun _ => #[])⟩
  refine wpAny_bind (seqEpoch_at ho1 rfl ?_)
  refine wpAny_bind (wpAny_newTuple ?_ (by show vs.length ≤ _; rw [sizeLine_eq]; omega))
  refine wpAny_bind (wpAny_newList ?_ (Nat.zero_le _))
  refine wpAny_holding ?_
  have ho6 : (((s.heap.update a (Obj.mapSeq fun _ => #[])).push (seqObj "tuple" vs.toArray 0)).push (seqObj "list" #[] 0)).get? a = some (seqObj "list" #[] e1) :=
    Heap.get?_push_of_some _ (Heap.get?_push_of_some _ ho1)
  have hps6 : Paired (IsPr (((s.heap.update a (Obj.mapSeq fun _ => #[])).push (seqObj "tuple" vs.toArray 0)).push (seqObj "list" #[] 0))) vs ps := paired_mono (fun v p x =>
    Le.isPr (fun b o e => Heap.get?_push_of_some _ (Heap.get?_push_of_some _ e)) (x.but ho (by simp) hs1.extBut)) hps
  show wpAny (model PG w) A _ P E { s with heap := ((s.heap.update a (Obj.mapSeq fun _ => #[])).push (seqObj "tuple" vs.toArray 0)).push (seqObj "list" #[] 0) }
  dsimp only
  by_cases h2 : vs.toArray.size < 2
  · rw [if_pos h2, if_pos h2]
    refine wpAny_bind (wpAny_pure ?_)
    rw [StateT.run_pure]
    refine wpAny_bind (wpAny_pure ?_)
    dsimp only
    have hsm : (vs.toArray.zip vs.toArray).map (·.2) = vs.toArray := by
      apply Array.ext'
      rw [Array.toList_map, Array.toList_zip]
      exact List.map_snd_zip (Nat.le_refl _)
    refine wpAny_bind (seqEpoch_at ho6 rfl ?_)
    refine wpAny_bind (listUpdate_at ho6 rfl ?_ (Nat.zero_le _) (by rw [Array.size_map]; show (vs.toArray.zip vs.toArray).size ≤ _; rw [Array.size_zip, List.size_toArray, sizeLine_eq]; omega))
    simp only [bne_self_eq_false, Bool.false_eq_true, if_false]
    refine wpAny_pure ?_
    have := h vs ps hps (.refl _) (by
      rw [List.size_toArray] at h2
      match ps, hlen ▸ h2 with
      | [], _ => exact .nil
      | [_], _ => exact List.pairwise_singleton ..)
    show P _ { s with heap := Heap.update (((s.heap.update a (Obj.mapSeq fun _ => #[])).push (seqObj "tuple" vs.toArray 0)).push (seqObj "list" #[] 0)) a (Obj.mapSeq fun _ => (vs.toArray.zip vs.toArray).map (·.2)) }
    rw [hsm]
    exact this
  · rw [if_neg h2, if_neg h2]
    rw [List.size_toArray] at h2
    obtain ⟨fs, hf1, hf2, hf3⟩ := katTups_of hps6
    refine wpAny_bind (kat_kind (T := .type "int") hf2 (by omega) (fun v hv => ?_) (by rfl) ?_)
    · obtain ⟨i, t, rfl⟩ := hf3 v hv
      exact Looks.now
    rw [show ((Value.type "int" != Value.type "tuple") : Bool) = true by decide]
    obtain ⟨p, hrun, hperm, hpw⟩ := sort_pairs nd (by omega) h5
    have hpsz : p.size = ps.length := by
      have := hperm.length_eq
      rw [List.length_range, Array.length_toList] at this
      exact this
    refine wpAny_bind (wpAny_mono (kat_run (Q := fun st' s' => arrOf st' = p.map (kas_item (vs.toArray.zip vs.toArray)) ∧ failedOf st' = none ∧ s' = { s with heap := ((s.heap.update a (Obj.mapSeq fun _ => #[])).push (seqObj "tuple" vs.toArray 0)).push (seqObj "list" #[] 0) })
      (G := fun p' s' => p' = p ∧ s' = { s with heap := ((s.heap.update a (Obj.mapSeq fun _ => #[])).push (seqObj "tuple" vs.toArray 0)).push (seqObj "list" #[] 0) })
      rfl (by omega) (by omega) (fun p' st' s' a1 a2 a3 a4 => ⟨a4.1 ▸ a2, a3, a4.2⟩) ?_) ?_ fun _ _ e => e)
    · rw [hlen]
      refine runB_wp (cmp := fun i j => ltP (at0 ps i) (at0 ps j)) (n := ps.length) (fun i j C hi hj hC => ?_) _ p hrun ⟨rfl, rfl⟩
      obtain ⟨v, hv, hvp⟩ := paired_get' hps6 (List.getElem?_eq_getElem hi)
      obtain ⟨u, hu, hup⟩ := paired_get' hps6 (List.getElem?_eq_getElem hj)
      unfold kas_ask
      have e1 : vs.getD i Value.none = v := by rw [List.getD_eq_getElem?_getD, hv]; rfl
      have e2 : vs.getD j Value.none = u := by rw [List.getD_eq_getElem?_getD, hu]; rfl
      have e3 : at0 ps i = ps[i] := by simp [at0, hi]
      have e4 : at0 ps j = ps[j] := by simp [at0, hj]
      rw [e1, e2]
      refine keyLt_pr hvp hup ?_
      rw [e3, e4] at hC
      exact hC
    · rintro ⟨⟨⟩, st'⟩ s' ⟨har, hfl, rfl⟩
      dsimp only
      have hout := kat_snds rfl har
      rw [hout]
      refine wpAny_bind (seqEpoch_at ho6 rfl ?_)
      refine wpAny_bind (listUpdate_at ho6 rfl ?_ (Nat.zero_le _) (by rw [List.size_toArray, List.length_map, Array.length_toList, hpsz, sizeLine_eq]; omega))
      rw [hfl]
      simp only [bne_self_eq_false, Bool.false_eq_true, if_false]
      exact wpAny_pure (h _ _ (paired_pick hps fun i hi => List.mem_range.mp (hperm.mem_iff.mp hi)) (perm_at0 hperm) hpw)

theorem sorted_pairs {w : World} {A : Around} {E : Value → Shared → Prop} {s : Shared} {l : Addr} {vs : List Value} {ps : List PI} {Q : Value → Shared → Prop} (hl : s.heap.IsList l vs.toArray)
    (hps : Paired (IsPr s.heap) vs ps) (nd : ps.Nodup) (h5 : ps.length ≤ 5)
    (h : ∀ h' D vs' ps' n, Le s.heap h' → s.heap.objs.size ≤ D → h'.get? D = some (lobj vs'.toArray n) → Paired (IsPr h') vs' ps' → ps'.Perm ps → ps'.Pairwise (fun x y => ltP x y = true) → Q (.ref D) ⟨h', s.gens, s.drawn, s.toks, s.os⟩) :
    wpAny (model PG w) A (call (.builtin "sorted") [.ref l]) Q E s := by
  have hlen := paired_length hps
  refine Calls.call_function_entry kind_sorted plain_sorted entry_sorted (args_sorted1 _) ?_
  unfold Builtin.«sorted»
  refine wpAny_bind (m := checkCount "sorted" 1 1 _) (wpAny_pure ?_)
  refine wpAny_bind (collect_list hl ?_ (by rw [sizeLine_eq]; omega))
  refine wpAny_bind (wpAny_newList ?_ (by rw [sizeLine_eq]; omega))
  have hsz : ((s.heap.push (seqObj "list" #[] 0)).update s.heap.objs.size (Obj.mapSeq (· ++ vs.toArray))).objs.size = s.heap.objs.size + 1 := by
    rw [Heap.size_update, size_push']
  have hoL : (((s.heap.push (seqObj "list" #[] 0)).update s.heap.objs.size (Obj.mapSeq (· ++ vs.toArray))).push (seqObj "list" vs.toArray 0)).get? (s.heap.objs.size + 1) = some (seqObj "list" vs.toArray 0) := by
    rw [← hsz]; exact Heap.get?_push_size _ rfl
  have keep : Le s.heap (((s.heap.push (seqObj "list" #[] 0)).update s.heap.objs.size (Obj.mapSeq (· ++ vs.toArray))).push (seqObj "list" vs.toArray 0)) := fun b o q => by
    have hlt : b < s.heap.objs.size := Heap.lt_size q
    rw [Heap.get?_push_ne _ _ _ (by rw [hsz]; exact Nat.ne_of_lt (Nat.lt_succ_of_lt hlt)), Heap.get?_update_ne _ _ _ _ (Nat.ne_of_lt hlt), Heap.get?_push_ne _ _ _ (Nat.ne_of_lt hlt)]
    exact q
  show wpAny _ _ _ _ _ { s with heap := ((s.heap.push (seqObj "list" #[] 0)).update s.heap.objs.size (Obj.mapSeq (· ++ vs.toArray))).push (seqObj "list" vs.toArray 0) }
  rw [hsz]
  refine wpAny_bind (wpAny_holding (wpAny_call_entry slot_list_sort ⟨_, hoL, rfl⟩ entry_list_sort (list_sort_pairs hoL (paired_mono (fun _ _ x => keep.isPr x) hps) nd h5 fun vs' ps' h1 h2 h3 => ⟨_, rfl, ?_⟩) (args_list_sort _)))
  refine wpAny_pure ⟨_, rfl, ?_⟩
  generalize ((s.heap.push (seqObj "list" #[] 0)).update s.heap.objs.size (Obj.mapSeq (· ++ vs.toArray))).push (seqObj "list" vs.toArray 0) = hm at *
  have hs1 := Heap.SameBut.update hm (s.heap.objs.size + 1) (Obj.mapSeq fun _ => (#[] : Array Value))
  obtain ⟨e1, ho1⟩ : ∃ e1, (hm.update (s.heap.objs.size + 1) (Obj.mapSeq fun _ => #[])).get? (s.heap.objs.size + 1) = some (seqObj "list" #[] e1) := ⟨_, get?_update_seq hoL (fun _ => #[])⟩
  have ho2 : (((hm.update (s.heap.objs.size + 1) (Obj.mapSeq fun _ => #[])).push (seqObj "tuple" vs.toArray 0)).push (seqObj "list" #[] 0)).get? (s.heap.objs.size + 1) = some (seqObj "list" #[] e1) :=
    Heap.get?_push_of_some _ (Heap.get?_push_of_some _ ho1)
  have hs2 := Heap.SameBut.update (((hm.update (s.heap.objs.size + 1) (Obj.mapSeq fun _ => #[])).push (seqObj "tuple" vs.toArray 0)).push (seqObj "list" #[] 0)) (s.heap.objs.size + 1) (Obj.mapSeq fun _ => vs'.toArray)
  obtain ⟨e2, ho3⟩ : ∃ e2, (sortedHeap hm (s.heap.objs.size + 1) vs vs'.toArray).get? (s.heap.objs.size + 1) = some (seqObj "list" vs'.toArray e2) := ⟨_, get?_update_seq ho2 (fun _ => vs'.toArray)⟩
  have up : Heap.ExtBut (s.heap.objs.size + 1) hm (sortedHeap hm (s.heap.objs.size + 1) vs vs'.toArray) := fun b o hb e =>
    hs2.extBut b o hb (Heap.get?_push_of_some _ (Heap.get?_push_of_some _ (hs1.extBut b o hb e)))
  refine h _ _ vs' ps' e2 (fun b o e => up b o ?_ (keep b o e)) (Nat.le_succ _) ho3 (paired_mono (fun v p x => x.but hoL (by simp) up) h1) h2 h3
  exact Nat.ne_of_lt (Nat.lt_succ_of_lt (Heap.lt_size e))
end Mine
end
section
open PySem PySem.W PySem.W.X PySem.Calls PyProof.Rows
set_option maxRecDepth 10000
namespace Mine

abbrev Row := List (Str × Int)
def holesFrom (k : Nat) : Row → List PI
  | [] => []
  | p :: r => (if p.1 = qS then [(p.2, (k : Int))] else []) ++ holesFrom (k + 1) r
theorem holesFrom_snoc (q : Str × Int) : ∀ (row : Row) (k : Nat), holesFrom k (row ++ [q]) = holesFrom k row ++ (if q.1 = qS then [(q.2, ((k + row.length : Nat) : Int))] else [])
  | [], k => by simp [holesFrom]
  | p :: r, k => by
    simp only [List.cons_append, holesFrom, holesFrom_snoc q r (k + 1), List.length_cons]
    rw [List.append_assoc, show k + 1 + r.length = k + (r.length + 1) by omega]
theorem holesFrom_snd : ∀ (row : Row) (k : Nat) (x : PI), x ∈ holesFrom k row → (k : Int) ≤ x.2
  | [], k, x, h => nomatch h
  | p :: r, k, x, h => by
    rw [holesFrom] at h
    rcases List.mem_append.mp h with h | h
    · split at h
      · rw [List.mem_singleton.mp h]; exact Int.le_refl _
      · cases h
    · have := holesFrom_snd r (k + 1) x h
      omega
theorem holesFrom_nodup : ∀ (row : Row) (k : Nat), (holesFrom k row).Nodup
  | [], _ => List.nodup_nil
  | p :: r, k => by
    rw [holesFrom]
    refine List.nodup_append.mpr ⟨?_, holesFrom_nodup r (k + 1), fun a ha b hb e => ?_⟩
    · split
      · simp
      · exact List.nodup_nil
    · have h2 := holesFrom_snd r (k + 1) b hb
      split at ha
      · rw [← e, List.mem_singleton.mp ha] at h2
        dsimp only at h2
        omega
      · cases ha
theorem holesFrom_len : ∀ (row : Row) (k : Nat), (holesFrom k row).length ≤ row.length
  | [], _ => Nat.le_refl _
  | p :: r, k => by
    have := holesFrom_len r (k + 1)
    rw [holesFrom, List.length_append, List.length_cons]
    split
    · simp; omega
    · simp; omega

/-- the walk of _law_heaped: behind i pieces the level, the heap, the opened -/
inductive Grd (row : Row) : Nat → Nat → List PI → List PI → Prop
  | nil : Grd row 0 0 [] []
  | op {i lv H O p} : Grd row i lv H O → row[i]? = some p → p.1 = opS → Grd row (i + 1) (lv + 1) H O
  | cl {i lv H O p} : Grd row i (lv + 1) H O → row[i]? = some p → p.1 = clS → Grd row (i + 1) lv H O
  | other {i lv H O p} : Grd row i lv H O → row[i]? = some p → p.1 ≠ opS → p.1 ≠ clS → p.1 ≠ qS → Grd row (i + 1) lv H O
  | hole {i lv H O p} {K : List PI} : Grd row i (lv + 1) H O → row[i]? = some p → p.1 = qS → K.Perm ((p.2, (i : Int)) :: H) → Grd row (i + 1) lv K O
  | clpop {i H O p} {x : PI} {H' : List PI} : Grd row i 0 H O → row[i]? = some p → p.1 = clS → H.Perm (x :: H') → (∀ y ∈ H, le x y) → Grd row (i + 1) 1 H' (O ++ [x])
  | holepop {i H O p} {K : List PI} {x : PI} {H' : List PI} : Grd row i 0 H O → row[i]? = some p → p.1 = qS → K.Perm ((p.2, (i : Int)) :: H) → K.Perm (x :: H') → (∀ y ∈ K, le x y) → Grd row (i + 1) 1 H' (O ++ [x])

theorem take_snoc {α : Type} {l : List α} {i : Nat} {a : α} (h : l[i]? = some a) : l.take (i + 1) = l.take i ++ [a] := by rw [List.take_add_one, h]; rfl
theorem take_len {α : Type} {l : List α} {i : Nat} {a : α} (h : l[i]? = some a) : (l.take i).length = i := by
  have := (List.getElem?_eq_some_iff.mp h).1
  rw [List.length_take]; omega

theorem holes_step {row : Row} {i : Nat} {p : Str × Int} (h : row[i]? = some p) : holesFrom 0 (row.take (i + 1)) = holesFrom 0 (row.take i) ++ (if p.1 = qS then [(p.2, (i : Int))] else []) := by
  rw [take_snoc h, holesFrom_snoc, take_len h, Nat.zero_add]

theorem Grd.holes {row : Row} {i lv : Nat} {H O : List PI} (G : Grd row i lv H O) : (H ++ O).Perm (holesFrom 0 (row.take i)) := by
  have no1 : ∀ {p : Str × Int}, p.1 = opS → p.1 ≠ qS := fun e => by rw [e]; decide
  have no2 : ∀ {p : Str × Int}, p.1 = clS → p.1 ≠ qS := fun e => by rw [e]; decide
  induction G with
  | nil => exact .refl _
  | op G hp hq ih => rw [holes_step hp, if_neg (no1 hq), List.append_nil]; exact ih
  | cl G hp hq ih => rw [holes_step hp, if_neg (no2 hq), List.append_nil]; exact ih
  | other G hp h1 h2 h3 ih => rw [holes_step hp, if_neg h3, List.append_nil]; exact ih
  | hole G hp hq hK ih =>
    rw [holes_step hp, if_pos hq]
    refine ((hK.append_right _).trans ?_).trans (List.perm_append_comm)
    exact List.Perm.cons _ ih
  | @clpop i H O p x H' G hp hq hx hl ih =>
    rw [holes_step hp, if_neg (no2 hq), List.append_nil]
    refine List.Perm.trans ?_ ih
    refine List.Perm.trans ?_ (hx.append_right _).symm
    rw [← List.append_assoc]
    exact List.perm_append_comm
  | @holepop i H O p K x H' G hp hq hK hx hl ih =>
    rw [holes_step hp, if_pos hq]
    refine List.Perm.trans ?_ List.perm_append_comm
    refine List.Perm.trans ?_ (List.Perm.cons _ ih)
    refine List.Perm.trans ?_ (hK.append_right O)
    refine List.Perm.trans ?_ (hx.append_right O).symm
    rw [← List.append_assoc]
    exact List.perm_append_comm
theorem Grd.bound {row : Row} {i lv : Nat} {H O : List PI} (G : Grd row i lv H O) : H.length + O.length ≤ row.length := by
  have := G.holes.length_eq
  have h2 := holesFrom_len (row.take i) 0
  rw [List.length_append] at this
  have h3 : (row.take i).length ≤ row.length := by rw [List.length_take]; omega
  omega
theorem Grd.opened {row : Row} {lv : Nat} {H O : List PI} (G : Grd row row.length lv H O) : O.Nodup ∧ O.length ≤ (holesFrom 0 row).length ∧ ∀ x ∈ O, x ∈ holesFrom 0 row := by
  have h := G.holes
  rw [List.take_length] at h
  have nd := h.nodup_iff.mpr (holesFrom_nodup row 0)
  have hl := h.length_eq
  rw [List.length_append] at hl
  exact ⟨(List.nodup_append.mp nd).2.1, by omega, fun x hx => h.mem_iff.mp (List.mem_append_right _ hx)⟩

/-- the heap is asked in vain, or something stays open -/
def Fails (row : Row) : Prop := (∃ i O p, Grd row i 0 [] O ∧ row[i]? = some p ∧ p.1 = clS) ∨ ∃ lv H O, Grd row row.length (lv + 1) H O

/-- what the rest of a turn needs: behind the pushes, before the pops -/
def Nxt (row : Row) (i : Nat) (lvl : Int) (H O : List PI) : Prop :=
  (∃ lv : Nat, lvl = lv ∧ Grd row (i + 1) lv H O) ∨ (lvl = -1 ∧ (H = [] → Fails row) ∧ ∀ x H', H.Perm (x :: H') → (∀ y ∈ H, le x y) → Grd row (i + 1) 1 H' (O ++ [x]))
end Mine
end
section
open PySem PySem.W PySem.W.X PySem.Calls PyProof.Rows
set_option maxRecDepth 10000
namespace Mine

theorem eq_nil {w : World} {A : Around} {E : Value → Shared → Prop} {s : Shared} {l b : Addr} {vs : List Value} {Q : Value → Shared → Prop} (hl : s.heap.IsList l vs.toArray) (hb : s.heap.IsList b #[]) (hu : A.units < cLine)
    (h : Q (.bool (decide (vs = []))) s) : wpAny (model PG w) A (compareOp .Eq (.ref l) (.ref b)) Q E s := by
  cases vs with
  | nil =>
    refine SeqAt.eq_listAt (e := fun _ => true) hl hb rfl hu (fun j h1 => by simp at h1) ?_
    exact h
  | cons v vs =>
    refine SeqAt.eq_list_lengthsAt hl hb (by simp) hu ?_
    simpa using h

def hbB : List Stmt := match ((dB 13)[3]? : Option Stmt) with | some (.For _ _ b _ _) => b | _ => []
abbrev hE (L : Addr) : Env := envAt (fdI 13 (.str "law_mq0175_01" 265) (.ref 88)) L 89

structure HJ (row : Row) (i : Nat) (lh lo : Addr) (g : Heap) (m : Str → Option Value) (own : List (Addr × Obj)) (lvl : Int) (H O : List PI) : Prop where
  own : ∃ vs ws n1 n2, own = [(lh, lobj vs.toArray n1), (lo, lobj ws.toArray n2)] ∧ Paired (IsPr g) vs H ∧ Paired (IsPr g) ws O
  hp : Hp H
  heap : m "heap" = some (.ref lh)
  opened : m "opened" = some (.ref lo)
  level : ∃ t, m "level" = some (.int lvl t)
  len : H.length + O.length ≤ i

theorem HJ.le {row : Row} {i : Nat} {lh lo : Addr} {g g' : Heap} {m m' : Str → Option Value} {own : List (Addr × Obj)} {lvl : Int} {H O : List PI} (J : HJ row i lh lo g m own lvl H O) (hg : Le g g') (h1 : m' "heap" = m "heap") (h2 : m' "opened" = m "opened") (h3 : m' "level" = m "level") : HJ row i lh lo g' m' own lvl H O := by
  obtain ⟨⟨vs, ws, n1, n2, e, p1, p2⟩, a, b, c, d, f⟩ := J
  exact ⟨⟨vs, ws, n1, n2, e, paired_mono (fun _ _ => hg.isPr) p1, paired_mono (fun _ _ => hg.isPr) p2⟩, a, h1.trans b, h2.trans c, h3 ▸ d, f⟩

/-- the turn's end -/
def HEnd (row : Row) (i : Nat) (lh lo L : Addr) (g : Heap) (p : List (Addr × Obj)) (gens : Array GenState) (d : Drawn) (os : OsState) (Qn : Shared → Prop) (f : Flow) (s₂ : Shared) : Prop := match f with
  | .next | .cont => ∃ g' m'' own'' h' tk', s₂ = ⟨h', gens, d, tk', os⟩ ∧ Le g g' ∧ St g' L m'' (own'' ++ p) h' ∧ ∃ lv H O, HJ row (i + 1) lh lo g' m'' own'' (lv : Nat) H O ∧ Grd row (i + 1) lv H O
  | .brk => False
  | .ret v => v = .none ∧ Fails row ∧ Qn s₂

set_option maxHeartbeats 8000000 in
theorem heaped3 {w : World} {mg mb : Str → Option Value} {A : Around} {E : Value → Shared → Prop} {row : Row} {i : Nat} {lh lo L : Addr} {g : Heap} {m : Str → Option Value} {own p : List (Addr × Obj)} {lvl : Int} {H O : List PI} {h : Heap} {gens : Array GenState} {d : Drawn} {tk : Nat} {os : OsState} {Qn : Shared → Prop}
    (B : Bas w mg mb g) (F : Fine A 9) (J : HJ row (i + 1) lh lo g m own lvl H O) (S : St g L m (own ++ p) h) (N : Nxt row i lvl H O) (hi : i < 99)
    (hn : ∀ h' tk', Le h h' → Qn ⟨h', gens, d, tk', os⟩) :
    wpAny (model PG w) A (execs (hbB.drop 2) (hE L)) (HEnd row i lh lo L g p gens d os Qn) E ⟨h, gens, d, tk, os⟩ := by
  obtain ⟨⟨vs, ws, n1, n2, rfl, p1, p2⟩, hp, mh, mo, ⟨t, ml⟩, hlen⟩ := J
  refine wpAny_execs_cons (wpAny_If (wpAny_isTrue_Compare1 (nm S ml (wpAny_Constant_int (wpAny_lt_int (wpAny_truthy_bool ?_))))))
  rcases N with ⟨lv, rfl, G⟩ | ⟨rfl, hfail, hpop⟩
  · rw [if_neg (by rw [decide_eq_true_eq]; omega)]
    refine wpAny_execs_nil (wpAny_execs_nil ⟨g, m, _, h, _, rfl, Le.refl _, S, lv, H, O, ⟨⟨vs, ws, n1, n2, rfl, p1, p2⟩, hp, mh, mo, ⟨t, ml⟩, hlen⟩, G⟩)
  · rw [if_pos (by decide)]
    refine wpAny_execs_cons (wpAny_If (wpAny_isTrue_Compare1 (nm S mh (wpAny_List (wpAny_items_nil ⟨by decide, ?_⟩)))))
    have S₁ := S.push (lobj #[] 0)
    refine eq_nil (vs := vs) ⟨_, S₁.at 1 rfl, rfl, _, rfl⟩ ⟨_, S₁.at 0 rfl, rfl, _, rfl⟩ (by have := F.units; omega) (wpAny_truthy_bool ?_)
    have S₁ := St.dropL (own := [_]) S₁
    dsimp only at S₁ ⊢
    by_cases hv : vs = []
    · rw [if_pos (decide_eq_true hv)]
      refine wpAny_execs_cons (wpAny_Return_some (wpAny_Constant_none ⟨rfl, hfail ?_, hn _ _ ?_⟩))
      · subst hv; cases p1; rfl
      · exact fun b o e => Heap.get?_push_of_some _ e
    · rw [if_neg (by rw [decide_eq_true_eq]; exact hv)]
      refine wpAny_execs_nil ?_
      have B' := B
      have hlg : g.get? lh = none := (S₁.obj (lh, _) (.head _)).2.1
      refine wpAny_execs_cons (app_stmt S₁ mo (S₁.at 1 rfl) (wpAny_Call_NameR (gn (v := .ref 49) B S₁ rfl (callWith_def (o := _) (fd := fdI 6 (.str "cpy313.heapq" 221) (.ref 48)) (f := 49) rfl (wpAny_items_cons (nm S₁ mh (wpAny_items_nil ⟨(B.keeps S₁.keep).X 49 _ rfl, wpAny_call ?_⟩)))))))
      refine pop_spec (s := ⟨_, _, _, _, _⟩) B S₁.keep F.less.less hlg (S₁.at 0 rfl) p1 (by have := paired_length p1; omega) hv hp fun s' v x vs' ps' n' hl' hps' hvx hperm hle hH' hkeep hgens hos hdr => ?_
      obtain ⟨h₂, gens₂, d₂, tk₂, os₂⟩ := s'
      dsimp only at hl' hkeep hgens hos hdr
      subst hgens hos hdr
      have S₂ := S₁.upd 0 rfl (fun b o hb e => hkeep b o (by simpa using hb) e) hl'
      refine ⟨_, ⟨_, S₂.at 1 rfl⟩, by rw [List.size_toArray, sizeLine_eq]; have := paired_length p2; omega, fun h₃ n₃ hn₃ hs₃ => ?_⟩
      rw [show ws.toArray.push v = (ws ++ [v]).toArray by simp] at hn₃
      have S₃ := S₂.upd 1 rfl hs₃ hn₃
      dsimp only at S₃ ⊢
      refine wpAny_execs_cons (wpAny_AugAssign_Name (ln S₃ ml (wpAny_Constant_int (iadd_int (sn S₃ fun h₄ S₄ => ?_)))))
      refine wpAny_execs_nil (wpAny_execs_nil ⟨g, _, [(lh, lobj vs'.toArray n'), (lo, lobj (ws ++ [v]).toArray n₃)], h₄, _, rfl, Le.refl _, S₄, 1, ps', O ++ [x], ⟨⟨vs', ws ++ [v], n', n₃, rfl, hps', paired_snoc p2 hvx⟩, hH', mh, mo, ⟨_, rfl⟩, ?_⟩, hpop x ps' hperm hle⟩)
      have := hperm.length_eq
      rw [List.length_cons] at this
      rw [List.length_append, List.length_singleton]
      omega

set_option maxHeartbeats 8000000 in
theorem heaped2 {w : World} {mg mb : Str → Option Value} {A : Around} {E : Value → Shared → Prop} {row : Row} {i : Nat} {lh lo L : Addr} {g : Heap} {m : Str → Option Value} {own p : List (Addr × Obj)} {lvl : Int} {H O : List PI} {h : Heap} {gens : Array GenState} {d : Drawn} {tk : Nat} {os : OsState} {Qn : Shared → Prop}
    (B : Bas w mg mb g) (F : Fine A 9) (J : HJ row i lh lo g m own lvl H O) (S : St g L m (own ++ p) h) {q : Str × Int} {t1 : Addr} {u1 u2 ti : Tok} (htup : IsTup g t1 [.str q.1 u1, .int q.2 u2].toArray) (mone : m "one" = some (.ref t1)) (mi : m "i" = some (.int (i : Nat) ti))
    (N1 : q.1 = qS → ∀ K : List PI, K.Perm ((q.2, (i : Int)) :: H) → Nxt row i lvl K O) (N2 : q.1 ≠ qS → Nxt row i lvl H O) (hi : i < 99)
    (hn : ∀ h' tk', KeepBut [lh, lo] h h' → Qn ⟨h', gens, d, tk', os⟩) :
    wpAny (model PG w) A (execs (hbB.drop 1) (hE L)) (HEnd row i lh lo L g p gens d os Qn) E ⟨h, gens, d, tk, os⟩ := by
  obtain ⟨⟨vs, ws, n1, n2, rfl, p1, p2⟩, hp, mh, mo, ⟨t, ml⟩, hlen⟩ := id J
  have htup' := htup.keeps S.keep
  refine wpAny_execs_cons (wpAny_If (wpAny_isTrue_Compare1 (Subscript_ (nm S mone (wpAny_Constant_int (item_tupleT htup' (by decide) (by decide) rfl rfl (wpAny_Constant_str (eqS (wpAny_truthy_bool ?_)))))))))
  dsimp only
  by_cases hq : q.1 = qS
  · rw [if_pos (decide_eq_true hq)]
    have S₁ := S.push { cls := .type "tuple", data := .seq [Value.int q.2 u2, Value.int (i : Nat) ti].toArray }
    refine wpAny_execs_cons (wpAny_Expr (wpAny_Call_NameR (gn (v := .ref 42) B S rfl (callWith_def (o := _) (fd := fdI 5 (.str "cpy313.heapq" 221) (.ref 41)) (f := 42) rfl (wpAny_items_cons (nm S mh (wpAny_items_cons (wpAny_Tuple (wpAny_items_cons (Subscript_ (nm S mone (wpAny_Constant_int (item_tupleT htup' (by decide) (by decide) rfl rfl (wpAny_items_cons (nm S mi (wpAny_items_nil ⟨by show 2 ≤ _; rw [sizeLine_eq]; omega, wpAny_items_nil ⟨(B.keeps S₁.keep).X 42 _ rfl, wpAny_call ?_⟩⟩))))))))))))))))
    dsimp only
    have hk1 : Le h (h.push { cls := .type "tuple", data := .seq [Value.int q.2 u2, Value.int (i : Nat) ti].toArray }) := fun b o e => Heap.get?_push_of_some _ e
    generalize h.push { cls := .type "tuple", data := .seq [Value.int q.2 u2, Value.int (i : Nat) ti].toArray } = h₁ at S₁ hk1 ⊢
    have S₂ := (St.dropL (own := [_]) (rest := [(lh, lobj vs.toArray n1), (lo, lobj ws.toArray n2)] ++ p) S₁).frz
    have hgg := (St.dropL (own := [_]) (rest := [(lh, lobj vs.toArray n1), (lo, lobj ws.toArray n2)] ++ p) S₁).frz_le
    have hta := St.frz_at (own := [_]) (rest := [(lh, lobj vs.toArray n1), (lo, lobj ws.toArray n2)] ++ p) S₁ (.head _)
    generalize Mine.frz h₁ L ([(lh, lobj vs.toArray n1), (lo, lobj ws.toArray n2)] ++ p) = g' at S₂ hgg hta
    have hlg : g'.get? lh = none := (S₂.obj (lh, _) (.head _)).2.1
    refine push_spec (s := ⟨h₁, _, _, _, _⟩) (p := (q.2, (i : Int))) (B.keeps hgg) S₂.keep F.less.less.less.less hlg (S₂.at 0 rfl) (paired_mono (fun _ _ => hgg.isPr) p1) ⟨_, u2, ti, rfl, _, hta, rfl, _, rfl⟩ (by have := paired_length p1; omega) hp fun s' vs' ps' n' hl' hps' hperm hH' hkeep hgens hos hdr => ?_
    obtain ⟨h₂, gens₂, d₂, tk₂, os₂⟩ := s'
    dsimp only at hl' hkeep hgens hos hdr
    subst hgens hos hdr
    have S₃ := S₂.upd 0 rfl (fun b o hb e => hkeep b o (by simpa using hb) e) hl'
    refine wpAny_execs_nil (wpAny_mono (heaped3 (own := [(lh, lobj vs'.toArray n'), (lo, lobj ws.toArray n2)]) (Qn := Qn) (B.keeps hgg) F (J := ⟨⟨vs', ws, n', n2, rfl, hps', paired_mono (fun _ _ => hgg.isPr) p2⟩, hH', mh, mo, ⟨t, ml⟩, ?_⟩) S₃ (N1 hq ps' hperm) hi fun h' tk' hk => hn h' tk' fun b o hb e => hk b o (hkeep b o (fun z => hb (by rw [List.mem_singleton.mp z]; exact .head _)) (hk1 b o e))) (fun f s₂ hf => ?_) fun _ _ e => e)
    · have := hperm.length_eq
      rw [List.length_cons] at this
      omega
    · have up : (∃ g'' m'' own'' h' tk', s₂ = ⟨h', gens₂, d₂, tk', os₂⟩ ∧ Le g' g'' ∧ St g'' L m'' (own'' ++ p) h' ∧ ∃ lv H O, HJ row (i + 1) lh lo g'' m'' own'' (lv : Nat) H O ∧ Grd row (i + 1) lv H O) →
          ∃ g'' m'' own'' h' tk', s₂ = ⟨h', gens₂, d₂, tk', os₂⟩ ∧ Le g g'' ∧ St g'' L m'' (own'' ++ p) h' ∧ ∃ lv H O, HJ row (i + 1) lh lo g'' m'' own'' (lv : Nat) H O ∧ Grd row (i + 1) lv H O := by
        rintro ⟨g'', m'', own'', h', tk', e, hle, r⟩
        exact ⟨g'', m'', own'', h', tk', e, hgg.trans hle, r⟩
      cases f with
      | next => exact up hf
      | cont => exact up hf
      | brk => exact hf
      | ret v => exact hf
  · rw [if_neg (by rw [decide_eq_true_eq]; exact hq)]
    refine wpAny_execs_nil (wpAny_mono (heaped3 (Qn := Qn) B F (J := ⟨⟨vs, ws, n1, n2, rfl, p1, p2⟩, hp, mh, mo, ⟨t, ml⟩, by omega⟩) S (N2 hq) hi fun h' tk' hk => hn h' tk' fun b o _ e => hk b o e) (fun f s₂ hf => hf) fun _ _ e => e)
end Mine
end
section
open PySem PySem.W PySem.W.X PySem.Calls PyProof.Rows
set_option maxRecDepth 10000
namespace Mine

theorem St.perm {g : Heap} {L : Addr} {m : Str → Option Value} {own own' : List (Addr × Obj)} {h : Heap} (S : St g L m own h) (hp : own'.Perm own) : St g L m own' h :=
  ⟨S.ns, S.keep, S.off, fun q hq => S.obj q (hp.mem_iff.mp hq), (hp.map _).nodup_iff.mpr S.apart⟩
theorem nxt_cl {row : Row} {i lv : Nat} {H O : List PI} {p : Str × Int} (G : Grd row i lv H O) (hp : row[i]? = some p) (hc : p.1 = clS) : Nxt row i ((lv : Int) - 1) H O := by
  cases lv with
  | zero => exact .inr ⟨rfl, fun e => .inl ⟨i, O, p, e ▸ G, hp, hc⟩, fun x H' h1 h2 => .clpop G hp hc h1 h2⟩
  | succ lv => exact .inl ⟨lv, by omega, .cl G hp hc⟩
theorem nxt_hole {row : Row} {i lv : Nat} {H O K : List PI} {p : Str × Int} (G : Grd row i lv H O) (hp : row[i]? = some p) (hc : p.1 = qS) (hK : K.Perm ((p.2, (i : Int)) :: H)) : Nxt row i ((lv : Int) - 1) K O := by
  cases lv with
  | zero =>
    refine .inr ⟨rfl, fun e => ?_, fun x H' h1 h2 => .holepop G hp hc hK h1 h2⟩
    have := hK.length_eq
    rw [e] at this; simp at this
  | succ lv => exact .inl ⟨lv, by omega, .hole G hp hc hK⟩

set_option maxHeartbeats 8000000 in
theorem heaped_spec {w : World} {mg mb : Str → Option Value} {A : Around} {R : Result → Shared → Prop} {s : Shared} (B : Bas w mg mb s.heap) (F : Fine A 12) {ra : Addr} {row : Row}
    (hr : IsRow s.heap ra row) (hlen : row.length ≤ 50) (h5 : (holesFrom 0 row).length ≤ 5)
    (hN : ∀ s', Fails row → Ext s s' → R (.ok (.ret .none)) s')
    (hS : ∀ s' D vs ps n H O, Ext s s' → s'.heap.get? D = some (lobj vs.toArray n) → Paired (IsPr s'.heap) vs ps → Grd row row.length 0 H O → ps.Perm O → ps.Pairwise (fun x y => ltP x y = true) → R (.ok (.ret (.ref D))) s') :
    codeAny (model PG w) A (.call (.ref 89) ⟨[.ref ra], []⟩) R s := by
  obtain ⟨hp, gens, d, tk, os⟩ := s
  refine enter (fd := fdI 13 (.str "law_mq0175_01" 265) (.ref 88)) (binds := [("row", .ref ra)]) B F.room (ho := rfl) rfl rfl rfl (fun h₁ E S B₁ => ?_) (locs rfl) rfl rfl rfl (by decide)
  dsimp only at S B hr hN hS ⊢
  generalize hp.objs.size = L at S ⊢
  have F' := F.deeper (envAt (fdI 13 (.str "law_mq0175_01" 265) (.ref 88)) L 89)
  generalize A.deeper (envAt (fdI 13 (.str "law_mq0175_01" 265) (.ref 88)) L 89) = A' at F' ⊢
  obtain ⟨vs, hl, hvs⟩ := hr
  have ext : ∀ (h' : Heap) tk', Le hp h' → Ext ⟨hp, gens, d, tk, os⟩ ⟨h', gens, d, tk', os⟩ := fun h' tk' hk => ⟨hk, rfl, rfl, [], by simp, fun _ hx => nomatch hx⟩
  refine wpAny_execs_cons (wpAny_Assign_Name (wpAny_List (wpAny_items_nil ⟨by decide, ?_⟩)))
  have S₁ := S.push (lobj #[] 0)
  generalize h₁.objs.size = lh at S₁ ⊢
  refine sn S₁ fun h₂ S₂ => ?_
  refine wpAny_execs_cons (wpAny_Assign_Name (wpAny_List (wpAny_items_nil ⟨by decide, ?_⟩)))
  dsimp only at S₂ ⊢
  have S₃ := S₂.push (lobj #[] 0)
  generalize h₂.objs.size = lo at S₃ ⊢
  refine sn S₃ fun h₄ S₄ => ?_
  refine wpAny_execs_cons (wpAny_Assign_Name (wpAny_Constant_int (sn S₄ fun h₅ S₅ => ?_)))
  dsimp only at S₅ ⊢
  have S₅' : St hp L _ [(lh, lobj ([] : List Value).toArray 0), (lo, lobj ([] : List Value).toArray 0)] h₅ := S₅.perm (List.Perm.swap ..)
  refine wpAny_execs_cons (for_enum F'.handled B S₅' rfl hl
    (fun i g m own gens' => gens' = gens ∧ ∃ lv H O, HJ row i lh lo g m own (lv : Nat) H O ∧ Grd row i lv H O)
    ⟨rfl, 0, [], [], ⟨⟨[], [], 0, 0, rfl, .nil, .nil⟩, fun j _ a b ha => by simp at ha, rfl, rfl, ⟨_, rfl⟩, Nat.le_refl _⟩, .nil⟩ ?_ ?_)
  · rintro E' i v tok g m own p h₆ tk₆ gens₆ hv hg ⟨rfl, lv, H, O, J, G⟩ S₆
    obtain ⟨q, hq, t1, u1, u2, rfl, htup⟩ := paired_get hvs (show vs[i]? = some v by simpa using hv)
    have htupg := IsTup.keeps htup hg
    have htup' := htupg.keeps S₆.keep
    have hlt : i < row.length := (List.getElem?_eq_some_iff.mp hq).1
    have Bg := B.keeps hg
    obtain ⟨tl, ml⟩ := J.level
    have stage : ∀ (E : Value → Shared → Prop) (h₇ : Heap) (tk₇ : Nat) (lvl : Int) (m' : Str → Option Value), St g L m' (own ++ p) h₇ → HJ row i lh lo g m' own lvl H O → m' "one" = some (.ref t1) → m' "i" = some (.int (i : Nat) tok) →
        (q.1 = qS → ∀ K : List PI, K.Perm ((q.2, (i : Int)) :: H) → Nxt row i lvl K O) → (q.1 ≠ qS → Nxt row i lvl H O) →
        wpAny (model PG w) A' (execs (hbB.drop 1) (hE L)) (fun f s₂ => match f with
          | .next | .cont => ∃ g' m'' own'' h' tk' gens', s₂ = ⟨h', gens', d, tk', os⟩ ∧ Le g g' ∧ St g' L m'' (own'' ++ p) h' ∧ (gens' = gens₆ ∧ ∃ lv H O, HJ row (i + 1) lh lo g' m'' own'' (lv : Nat) H O ∧ Grd row (i + 1) lv H O)
          | .brk => False
          | .ret v => R (.ok (.ret v)) s₂) E ⟨h₇, gens₆, d, tk₇, os⟩ := by
      intro E h₇ tk₇ lvl m' S₇ J' mone mi n1 n2
      obtain ⟨⟨vs', ws', k1, k2, rfl, _, _⟩, _⟩ := id J'
      have z1 := S₇.obj (lh, _) (.head _)
      have z2 := S₇.obj (lo, _) (.tail _ (.head _))
      refine wpAny_mono (heaped2 (Qn := fun s' => R (.ok (.ret .none)) s' ∨ ¬ Fails row) Bg F'.less.less J' S₇ htupg mone mi n1 n2 (by omega) fun h' tk' hk => ?_) (fun f s₂ hf => ?_) fun _ _ e => e
      · by_cases hf : Fails row
        · refine .inl (hN _ hf (ext _ _ fun b o e => hk b o (fun hm => ?_) (S₇.keep b o (hg b o e))))
          have e' := hg b o e
          rcases List.mem_cons.mp hm with rfl | hm
          · rw [z1.2.1] at e'; cases e'
          · rw [List.mem_singleton.mp hm, z2.2.1] at e'; cases e'
        · exact .inr hf
      · cases f with
        | next => obtain ⟨g', m'', own'', h', tk', e, r1, r2, r3⟩ := hf; exact ⟨g', m'', own'', h', tk', _, e, r1, r2, rfl, r3⟩
        | cont => obtain ⟨g', m'', own'', h', tk', e, r1, r2, r3⟩ := hf; exact ⟨g', m'', own'', h', tk', _, e, r1, r2, rfl, r3⟩
        | brk => exact hf
        | ret v => obtain ⟨rfl, hf, hq⟩ := hf; exact hq.resolve_right fun z => z hf
    have fin : ∀ (f : Flow) (s₂ : Shared), (match f with
          | .next | .cont => ∃ g' m'' own'' h' tk' gens', s₂ = ⟨h', gens', d, tk', os⟩ ∧ Le g g' ∧ St g' L m'' (own'' ++ p) h' ∧ (gens' = gens₆ ∧ ∃ lv H O, HJ row (i + 1) lh lo g' m'' own'' (lv : Nat) H O ∧ Grd row (i + 1) lv H O)
          | .brk => False
          | .ret v => R (.ok (.ret v)) s₂) → (match f with
          | .next | .cont => ∃ g' m'' own'' h' tk' gens', s₂ = ⟨h', gens', d, tk', os⟩ ∧ Le g g' ∧ St g' L m'' (own'' ++ p) h' ∧ (gens' = gens₆ ∧ ∃ lv H O, HJ row (i + 1) lh lo g' m'' own'' (lv : Nat) H O ∧ Grd row (i + 1) lv H O)
          | .brk => wpAny (model PG w) A' (execs ((dB 13).drop 4) (hE L)) (fun fl s' => R (.ok (.ret (match fl with | .ret v => v | _ => .none))) s') E s₂
          | .ret v => R (.ok (.ret v)) s₂) := fun f s₂ hf => by
      cases f with
      | next => exact hf
      | cont => exact hf
      | brk => exact hf.elim
      | ret v => exact hf
    refine wpAny_execs_cons (wpAny_If (wpAny_isTrue_Compare1 (Subscript_ (nm S₆ rfl (wpAny_Constant_int (item_tupleT htup' (by decide) (by decide) rfl rfl (wpAny_Constant_str (eqS (wpAny_truthy_bool ?_)))))))))
    dsimp only
    by_cases c1 : q.1 = opS
    · rw [if_pos (decide_eq_true c1)]
      refine wpAny_execs_cons (wpAny_AugAssign_Name (ln S₆ ml (wpAny_Constant_int (iadd_int (sn S₆ fun h₇ S₇ => wpAny_execs_nil ?_)))))
      dsimp only at S₇ ⊢
      refine wpAny_mono (stage _ _ _ ((lv : Int) + 1) _ S₇ ⟨J.own, J.hp, J.heap, J.opened, ⟨_, rfl⟩, J.len⟩ rfl rfl (fun e => absurd (c1.symm.trans e) (by decide)) (fun _ => .inl ⟨lv + 1, by omega, .op G hq c1⟩)) fin fun _ _ e => e
    · rw [if_neg (by rw [decide_eq_true_eq]; exact c1)]
      refine wpAny_execs_cons (wpAny_If (wpAny_isTrue_BoolOp (wpAny_allTrue_Or_cons (wpAny_isTrue_Compare1 (Subscript_ (nm S₆ rfl (wpAny_Constant_int (item_tupleT htup' (by decide) (by decide) rfl rfl (wpAny_Constant_str (eqS (wpAny_truthy_bool ?_)))))))))))
      by_cases c2 : q.1 = clS
      · rw [if_pos (decide_eq_true c2), if_pos rfl]
        refine wpAny_execs_cons (wpAny_AugAssign_Name (ln S₆ ml (wpAny_Constant_int (isub_int (sn S₆ fun h₇ S₇ => wpAny_execs_nil (wpAny_execs_nil ?_))))))
        dsimp only at S₇ ⊢
        refine wpAny_mono (stage _ _ _ ((lv : Int) - 1) _ S₇ ⟨J.own, J.hp, J.heap, J.opened, ⟨_, rfl⟩, J.len⟩ rfl rfl (fun e => absurd (c2.symm.trans e) (by decide)) (fun _ => nxt_cl G hq c2)) fin fun _ _ e => e
      · rw [if_neg (by rw [decide_eq_true_eq]; exact c2)]
        refine wpAny_allTrue_Or_cons (wpAny_isTrue_Compare1 (Subscript_ (nm S₆ rfl (wpAny_Constant_int (item_tupleT htup' (by decide) (by decide) rfl rfl (wpAny_Constant_str (eqS (wpAny_truthy_bool ?_))))))))
        by_cases c3 : q.1 = qS
        · rw [if_pos (decide_eq_true c3), if_pos rfl]
          refine wpAny_execs_cons (wpAny_AugAssign_Name (ln S₆ ml (wpAny_Constant_int (isub_int (sn S₆ fun h₇ S₇ => wpAny_execs_nil (wpAny_execs_nil ?_))))))
          dsimp only at S₇ ⊢
          refine wpAny_mono (stage _ _ _ ((lv : Int) - 1) _ S₇ ⟨J.own, J.hp, J.heap, J.opened, ⟨_, rfl⟩, J.len⟩ rfl rfl (fun _ K hK => nxt_hole G hq c3 hK) (fun e => absurd c3 e)) fin fun _ _ e => e
        · rw [if_neg (by rw [decide_eq_true_eq]; exact c3)]
          refine wpAny_allTrue_Or_nil ?_
          rw [if_neg (by simp)]
          refine wpAny_execs_nil (wpAny_execs_nil ?_)
          refine wpAny_mono (stage _ _ _ (lv : Int) _ S₆ ⟨J.own, J.hp, J.heap, J.opened, ⟨_, ml⟩, J.len⟩ rfl rfl (fun e => absurd e c3) (fun _ => .inl ⟨lv, rfl, .other G hq c1 c2 c3⟩)) fin fun _ _ e => e
  · rintro g m own h₆ tk₆ gens₆ hg ⟨rfl, lv, H, O, J, G⟩ S₆
    rw [List.size_toArray, paired_length hvs] at G
    have Bg := B.keeps hg
    obtain ⟨tl, ml⟩ := J.level
    refine wpAny_execs_cons (wpAny_If (wpAny_isTrue_Compare1 (nm S₆ ml (wpAny_Constant_int (ne_int (wpAny_truthy_bool ?_))))))
    cases lv with
    | succ lv =>
      rw [if_pos (by simp; omega)]
      refine wpAny_execs_cons (wpAny_Return_some (wpAny_Constant_none ?_))
      exact hN _ (.inr ⟨lv, H, O, G⟩) (ext _ _ (hg.trans S₆.keep))
    | zero =>
      rw [if_neg (by simp)]
      refine wpAny_execs_nil ?_
      obtain ⟨⟨vs', ws', k1, k2, rfl, p1, p2⟩, _⟩ := id J
      obtain ⟨nd, hO, _⟩ := G.opened
      refine wpAny_execs_cons (wpAny_Return_some (wpAny_Call_NameR (bn Bg S₆ rfl boot_sorted (callWith_builtin1 (nm S₆ J.opened (sorted_pairs (vs := ws') ⟨_, S₆.at 1 rfl, rfl, _, rfl⟩ (paired_mono (fun _ _ x => Le.isPr S₆.keep x) p2) nd (by omega) fun h₇ D vs'' ps'' n'' hk hD hl'' hps'' hperm hpw => ?_))))))
      exact hS _ D vs'' ps'' n'' H O (ext _ _ ((hg.trans S₆.keep).trans hk)) hl'' hps'' G hperm hpw
end Mine
end
section
open PySem PySem.W PySem.W.X PySem.Calls PyProof.Rows
set_option maxRecDepth 10000
namespace Mine

abbrev testsOf (ifs : List Expr) (env : Env) : Sem Bool := forIn ifs true fun c r => if r = true then do let ok ← isTrue c env (eval c env); pure (ForInStep.yield ok) else pure (ForInStep.yield r)

/-- what a comprehension's walk needs: the iterator's objects p, the loop's invariant J over the frozen heap and the list so far -/
structure CompW (w : World) (A : Around) (cenv : Addr → Env) (target elt : Expr) (ifs : List Expr) (it : Value) (s₂ : Shared) (p : List (Addr × Obj)) (n : Nat) (J : Nat → Heap → List Value → Prop) : Prop where
  obj : ∀ q ∈ p, s₂.heap.get? q.1 = some q.2
  nd : (p.map (·.1)).Nodup
  j0 : J 0 (hideAll s₂.heap (p.map (·.1))) []
  small : ∀ i g ys, J i g ys → ys.length ≤ 1000
  loc : ∀ C, (cenv C).locals = C
  iter : ∀ C, ∃ par put, par 0 p ∧ Iter w A (cenv C) target it (hideAll s₂.heap (p.map (·.1))) n par put ∧ (∀ i m own m' own', put i m own m' own' → own' = own) ∧
    ∀ (E : Value → Shared → Prop) i g₁ m₁ ys own m' q h tk, i < n → Le (hideAll s₂.heap (p.map (·.1))) g₁ → J i g₁ ys → put i m₁ own m' own → St g₁ C m' (own ++ q) h →
      wpAny (model PG w) A (testsOf ifs (cenv C)) (fun ok s₃ => ∃ g₂ h₃ tk₃, s₃ = ⟨h₃, s₂.gens, s₂.drawn, tk₃, s₂.os⟩ ∧ Le g₁ g₂ ∧ St g₂ C m' (own ++ q) h₃ ∧
        if ok = true then wpAny (model PG w) A (eval elt (cenv C)) (fun y s₄ => ∃ g₃ h₄ tk₄, s₄ = ⟨h₄, s₂.gens, s₂.drawn, tk₄, s₂.os⟩ ∧ Le g₂ g₃ ∧ St g₃ C m' (own ++ q) h₄ ∧ J (i + 1) g₃ (ys ++ [y])) E s₃
        else J (i + 1) g₂ ys) E ⟨h, s₂.gens, s₂.drawn, tk, s₂.os⟩
  self : ∀ (s : Shared) (Q : Value → Shared → Prop) (E : Value → Shared → Prop), (∀ q ∈ p, s.heap.get? q.1 = some q.2) → Q it s → wpAny (model PG w) A (pyIter it) Q E s

set_option maxHeartbeats 4000000 in
theorem comp_core {w : World} {A : Around} {E : Value → Shared → Prop} {env : Env} {elt target iter : Expr} {ifs : List Expr} {scope : Scope} {cl : List (Str × Addr)} {pos : Pos} {s₂ : Shared} {it : Value} {p : List (Addr × Obj)} {n : Nat} {J : Nat → Heap → List Value → Prop}
    (W : CompW w A (fun C => compEnvC scope cl C env) target elt ifs it s₂ p n J) {RR : Value → Addr → Result → Shared → Prop}
    (hcell : ∀ y ∈ scope.names, y.2 ≠ .cell) (hkind : scope.kind = .function)
    (hRR : ∀ D C h' tk m' g₁ ys k, s₂.heap.get? D = none → s₂.heap.get? C = none → D ≠ C → h'.Ns C m' → h'.get? D = some (lobj ys.toArray k) → Le (hideAll s₂.heap (p.map (·.1))) g₁ → g₁.get? D = none → g₁.get? C = none → Le g₁ h' → J n g₁ ys →
      RR (.ref D) C (.ok .next) ⟨h', s₂.gens, s₂.drawn, tk, s₂.os⟩) :
    wpAny (model PG w) A (newList []) (fun acc s₃ => wpAny (model PG w) A (newFunctionEnv scope env.globals cl [] env.qual none .none (some env)) (fun cenv s₄ =>
      codeAny (model PG w) A (.compStart (.ListComp elt [⟨target, iter, ifs, 0⟩] scope pos) 0 it acc { cenv with scope := relabel scope env }) (RR acc cenv.locals) s₄) E s₃) E s₂ := by
  refine wpAny_newObj_type (wpAny_newFunctionEnv hcell (by intro y hy; simp at hy) (fun h₁ hns₁ hsb₁ => ?_) hkind)
  dsimp only at hns₁ hsb₁ ⊢
  generalize hH2 : s₂.heap.push { cls := .type "list", dict := none, data := .seq ([] : List Value).toArray } = H2 at hns₁ hsb₁ ⊢
  have hC : H2.objs.size = s₂.heap.objs.size + 1 := by rw [← hH2, Heap.size_push]
  have hDC : s₂.heap.objs.size ≠ H2.objs.size := by rw [hC]; exact Nat.ne_of_lt (Nat.lt_succ_self _)
  have below : ∀ b, b < s₂.heap.objs.size → b ≠ H2.objs.size ∧ b ≠ s₂.heap.objs.size := fun b hb => ⟨by rw [hC]; exact Nat.ne_of_lt (Nat.lt_succ_of_lt hb), Nat.ne_of_lt hb⟩
  have old : Le s₂.heap h₁ := fun b o e => hsb₁.extBut b o (below b (Heap.lt_size e)).1 (Heap.get?_push_of_some _ (hH2 ▸ Heap.get?_push_of_some _ e))
  have hacc : h₁.get? s₂.heap.objs.size = some (lobj ([] : List Value).toArray 0) := hsb₁.extBut _ _ hDC (Heap.get?_push_of_some _ (hH2 ▸ Heap.get?_push_size _ rfl))
  have fresh : ∀ a, s₂.heap.objs.size ≤ a → s₂.heap.get? a = none := fun a ha => by
    cases e : s₂.heap.get? a with
    | none => rfl
    | some o' => exact absurd (Heap.lt_size e) (Nat.not_lt.mpr ha)
  have hfD := fresh _ (Nat.le_refl _)
  have hfC : s₂.heap.get? H2.objs.size = none := fresh _ (by rw [hC]; exact Nat.le_succ _)
  have hid : ∀ a, s₂.heap.get? a = none → (hideAll s₂.heap (p.map (·.1))).get? a = none := fun a ha => by
    cases e : (hideAll s₂.heap (p.map (·.1))).get? a with
    | none => rfl
    | some o => rw [of_hideAll _ e] at ha; cases ha
  generalize s₂.heap.objs.size = D at *
  generalize H2.objs.size = C at *
  obtain ⟨par, put, hp0, I, hput, turn⟩ := W.iter C
  have hloc : (compEnvC scope cl C env).locals = C := rfl
  have S₁ : St (hideAll s₂.heap (p.map (·.1))) C (fun x => ([] : List (Str × Value)).reverse.lookup x) ([(D, lobj ([] : List Value).toArray 0)] ++ p) h₁ := by
    refine ⟨hns₁, fun b o e => old b o (of_hideAll _ e), hid _ hfC, fun q hq => ?_, ?_⟩
    · rcases List.mem_append.mp hq with hq | hq
      · rw [List.mem_singleton.mp hq]
        exact ⟨hacc, hid _ hfD, hDC⟩
      · refine ⟨old _ _ (W.obj q hq), hideAll_none _ (List.mem_map_of_mem hq), fun z => ?_⟩
        have := W.obj q hq
        rw [z, hfC] at this; cases this
    · rw [List.map_append]
      refine List.nodup_append.mpr ⟨by simp, W.nd, fun a ha b hb e => ?_⟩
      obtain ⟨q, hq, rfl⟩ := List.mem_map.mp hb
      have := W.obj q hq
      have ha' : a = D := by simpa using ha
      rw [← e, ha', hfD] at this; cases this
  have loop : codeAny (model PG w) A (.compLoop (.ListComp elt [⟨target, iter, ifs, 0⟩] scope pos) 0 it (.ref D) (compEnvC scope cl C env)) (RR (.ref D) C) ⟨h₁, s₂.gens, s₂.drawn, s₂.toks + ([] : List (Str × Value)).length, s₂.os⟩ := by
    refine codeAny_loop rfl (fun k s' => ∃ i g m ys e q h tk, k = n + 1 - i ∧ i ≤ n ∧ s' = ⟨h, s₂.gens, s₂.drawn, tk, s₂.os⟩ ∧ Le (hideAll s₂.heap (p.map (·.1))) g ∧ par i q ∧ St g C m ([(D, lobj (List.toArray ys) e)] ++ q) h ∧ J i g ys) (fun k s' hI => ?_) (n + 1)
      ⟨0, _, _, [], 0, p, h₁, _, rfl, Nat.zero_le _, rfl, Le.refl _, hp0, S₁, W.j0⟩
    obtain ⟨i, g, m, ys, e, q, h, tk, rfl, hi, rfl, hg, hpar, S, hJ⟩ := hI
    show wpAny _ A ((compTurn (.ListComp elt [⟨target, iter, ifs, 0⟩] scope pos) 0 it (.ref D) (compEnvC scope cl C env)).onRaise (fun x => do noteFrame x (compEnvC scope cl C env); theTreesLotGoes x)) _ _ _
    refine wpAny_noted ?_
    rw [compTurn_list]
    refine wpAny_bind (wpAny_standAt (wpAny_bind ?_))
    by_cases hlt : i < n
    · refine wpAny_mono (I.item (X := fun _ => False) (Body := fun s₃ => ∃ m' q' h' tk', s₃ = ⟨h', s₂.gens, s₂.drawn, tk', s₂.os⟩ ∧ par (i + 1) q' ∧ put i m [(D, lobj (List.toArray ys) e)] m' [(D, lobj (List.toArray ys) e)] ∧ St g C m' ([(D, lobj (List.toArray ys) e)] ++ q') h')
        hlt hg hpar S fun p' m' own' h' tk' hp' hpt S' => ?_) (fun r s₁ h₁ => ?_) fun _ _ x => x
      · have := hput _ _ _ _ _ hpt
        subst this
        exact ⟨m', p', h', tk', rfl, hp', hpt, S'⟩
      · cases r with
        | none => exact h₁.elim
        | some v =>
          refine wpAny_bind (wpAny_mono h₁ (fun _ s₁' h₁' => wpAny_bind (wpAny_mono h₁' (fun _ s₃ h₃ => ?_) fun _ _ x => x)) fun _ _ x => x)
          obtain ⟨m', q', h', tk', rfl, hp', hpt, S'⟩ := h₃
          refine wpAny_bind (wpAny_mono (turn _ i g m ys _ m' q' h' tk' hlt hg hJ hpt S') (fun ok s₄ h₄ => ?_) fun _ _ x => x)
          obtain ⟨g₂, h₃, tk₃, rfl, hle₂, S₃, hrest⟩ := h₄
          cases ok with
          | false =>
            rw [if_neg (by simp)] at hrest
            exact wpAny_pure ⟨rfl, n + 1 - (i + 1), by omega, i + 1, g₂, m', ys, e, q', h₃, tk₃, rfl, hlt, rfl, hg.trans hle₂, hp', S₃, hrest⟩
          | true =>
            rw [if_pos rfl] at hrest
            refine wpAny_bind (wpAny_bind (wpAny_mono hrest (fun y s₅ h₅ => ?_) fun _ _ x => x))
            obtain ⟨g₃, h₄, tk₄, rfl, hle₃, S₄, hJ₄⟩ := h₅
            have hys := W.small _ _ _ hJ
            refine wpAny_bind (wpAny_list_append_plain ⟨e, S₄.at 0 rfl⟩ (fun h₅ ⟨e₅, hn₅⟩ hs₅ => ?_) (by rw [List.size_toArray, sizeLine_eq]; omega))
            rw [show (List.toArray ys).push y = List.toArray (ys ++ [y]) by simp] at hn₅
            have S₅ := S₄.upd 0 rfl hs₅.extBut hn₅
            exact wpAny_pure (wpAny_pure ⟨rfl, n + 1 - (i + 1), by omega, i + 1, g₃, m', ys ++ [y], e₅, q', h₅, tk₄, rfl, hlt, rfl, (hg.trans hle₂).trans hle₃, hp', S₅, hJ₄⟩)
    · obtain rfl : i = n := by omega
      refine wpAny_mono (I.stop (Y := fun _ _ => False) (X := fun s₃ => RR (.ref D) C (.ok .next) s₃) hg hpar S fun h' tk' S' => ?_) (fun r s₁ h₁ => ?_) fun _ _ x => x
      · have z := S'.obj (D, _) (.head _)
        exact hRR D C h' tk' m g ys e hfD hfC hDC S'.ns z.1 hg z.2.1 S'.off S'.keep hJ
      · cases r with
        | none => exact wpAny_pure h₁
        | some v => exact h₁.elim
  exact codeAny_compStart_list loop (W.self _ _ _ (fun q hq => old _ _ (W.obj q hq)) loop)

theorem comp_eval {w : World} {A : Around} {E : Value → Shared → Prop} {env : Env} {s : Shared} {elt target iter : Expr} {ifs : List Expr} {scope : Scope} {cl : List (Str × Addr)} {pos : Pos} {Q : Value → Shared → Prop}
    (hclos : closureFor scope env = pure cl)
    (h : wpAny (model PG w) A (eval iter env) (fun xv s₁ => wpAny (model PG w) A (pyIter xv) (fun it s₂ => ∃ p n J, CompW w A (fun C => compEnvC scope cl C env) target elt ifs it s₂ p n J ∧
      ∀ D h' tk g₁ ys k, s₂.heap.get? D = none → h'.get? D = some (lobj ys.toArray k) → Le (hideAll s₂.heap (p.map (·.1))) g₁ → g₁.get? D = none → Le g₁ h' → J n g₁ ys → Q (.ref D) ⟨h', s₂.gens, s₂.drawn, tk, s₂.os⟩) E s₁) E s)
    (hcell : ∀ y ∈ scope.names, y.2 ≠ .cell := by decide) (hkind : scope.kind = .function := by rfl) (hnames : ∀ z ∈ scope.names, z.2 = .local → scope.names.lookup z.1 = some .local := by decide)
    (hs : ∀ x, foldedSetIterable iter env x = pure x := by intro _; rfl) :
    wpAny (model PG w) A (eval (.ListComp elt [⟨target, iter, ifs, 0⟩] scope pos) env) Q E s := by
  rw [eval_ListComp]
  refine wpAny_comprehension_free (use := none) rfl hs hclos hkind hnames (wpAny_mono h (fun xv s₁ h₁ => wpAny_mono h₁ (fun it s₂ h₂ => ?_) fun _ _ e => e) fun _ _ e => e)
  obtain ⟨p, n, J, W, hQ⟩ := h₂
  refine comp_core (RR := fun acc C => compPost (model PG w) A E none Q acc C) W hcell hkind ?_
  intro D C h' tk m' g₁ ys k hD hC hDC hn hl hg hgD hgC hle hJ
  refine ⟨m', hn, fun h'' hs'' => hQ D h'' tk g₁ ys k hD ((hs''.2 D hDC).trans hl) hg hgD (fun b o e => (hs''.2 b (fun z => ?_)).trans (hle b o e)) hJ⟩
  rw [z, hgC] at e; cases e

theorem comp_assign {w : World} {A : Around} {E : Value → Shared → Prop} {env : Env} {s : Shared} {elt target iter : Expr} {y : Str} {py : Pos} {ifs : List Expr} {scope : Scope} {cl : List (Str × Addr)} {pos spos : Pos} {Q : Flow → Shared → Prop}
    (hclos : closureFor scope env = pure cl)
    (h : wpAny (model PG w) A (eval iter env) (fun xv s₁ => wpAny (model PG w) A (pyIter xv) (fun it s₂ => ∃ p n J g m own, CompW w A (fun C => compEnvC scope cl C env) target elt ifs it s₂ p n J ∧ St g env.locals m (own ++ p) s₂.heap ∧
      ∀ D h' tk g₁ ys k, h'.get? D = some (lobj ys.toArray k) → g.get? D = none → D ≠ env.locals → (∀ q ∈ own, q.1 ≠ D) → St g env.locals (fun z => if z = y then some (.ref D) else m z) own h' → (∀ b o, b ≠ env.locals → g₁.get? b = some o → h'.get? b = some o) → J n g₁ ys → Q .next ⟨h', s₂.gens, s₂.drawn, tk, s₂.os⟩) E s₁) E s)
    (hsw : swapsWith (.ListComp elt [⟨target, iter, ifs, 0⟩] scope pos) (some (.Name y py)) spos.line env = pure true := by rfl)
    (hcell : ∀ y ∈ scope.names, y.2 ≠ .cell := by decide) (hkind : scope.kind = .function := by rfl) (hnames : ∀ z ∈ scope.names, z.2 = .local → scope.names.lookup z.1 = some .local := by decide)
    (hy : env.kindOf y = some .local := by rfl) (hp : (env.scope.kind == .class || (env.scope.kind == .module && env.locals != env.globals)) = false := by rfl)
    (hs : ∀ x, foldedSetIterable iter env x = pure x := by intro _; rfl) :
    wpAny (model PG w) A (exec (.Assign [.Name y py] (.ListComp elt [⟨target, iter, ifs, 0⟩] scope pos) spos) env) Q E s := by
  rw [exec_Assign_Name_used _ _ _ _ hsw]
  refine wpAny_bind (wpAny_standAt (wpAny_bind ?_))
  show wpAny _ A (do let _ ← comprehension (.ListComp elt [⟨target, iter, ifs, 0⟩] scope pos) scope env _ (newList []) false (eval iter env) (some (assign (.Name y py) env))) _ _ s
  refine wpAny_bind (wpAny_mono (wpAny_comprehension_free (use := some (assign (.Name y py) env)) (Q := fun _ s' => Q .next s') rfl hs hclos hkind hnames
    (wpAny_mono h (fun xv s₁ h₁ => wpAny_mono h₁ (fun it s₂ h₂ => ?_) fun _ _ e => e) fun _ _ e => e)) (fun _ s' hq => wpAny_pure (wpAny_pure hq)) fun _ _ e => e)
  obtain ⟨p, n, J, g, m, own, W, S, hQ⟩ := h₂
  refine comp_core (RR := fun acc C => compPost (model PG w) A E (some (assign (.Name y py) env)) (fun _ s' => Q .next s') acc C) W hcell hkind ?_
  intro D C h' tk m' g₁ ys k hD hC hDC hnC hl hg hgD hgC hle hJ
  have kb : KeepBut (p.map (·.1)) s₂.heap h' := fun b o hb e => hle b o (hg b o (hideAll_get _ e hb))
  have S' := S.keepBut kb
  have hLC : env.locals ≠ C := fun z => by obtain ⟨o, _, _, ho, _⟩ := S.ns; rw [z, hC] at ho; cases ho
  have hLD : env.locals ≠ D := fun z => by obtain ⟨o, _, _, ho, _⟩ := S.ns; rw [z, hD] at ho; cases ho
  show wpAny _ A (assign (.Name y py) env (.ref D)) _ _ _
  refine wpAny_assign_Name (wpAny_storeName_local hy S'.ns (fun h₂ hn₂ hs₂ => ?_) hp)
  refine ⟨m', hnC.sameBut hs₂ (Ne.symm hLC), fun h₃ hs₃ => ?_⟩
  have S₂ := S'.set hn₂ hs₂
  have gC : g.get? C = none := by
    cases e : g.get? C with
    | none => rfl
    | some o => have := S.keep _ _ e; rw [hC] at this; cases this
  have gD : g.get? D = none := by
    cases e : g.get? D with
    | none => rfl
    | some o => have := S.keep _ _ e; rw [hD] at this; cases this
  have S₃ : St g env.locals (fun z => if z = y then some (.ref D) else m z) own h₃ := by
    refine ⟨S₂.ns.sameBut hs₃ hLC, fun b o e => (hs₃.2 b fun z => ?_).trans (S₂.keep b o e), S₂.off, fun q hq => ⟨(hs₃.2 q.1 fun z => ?_).trans (S₂.obj q hq).1, (S₂.obj q hq).2⟩, S₂.apart⟩
    · rw [z, gC] at e; cases e
    · have := (S.obj q (List.mem_append_left _ hq)).1
      rw [z, hC] at this; cases this
  refine hQ D h₃ _ g₁ ys k ((hs₃.2 D hDC).trans ((hs₂.2 D (Ne.symm hLD)).trans hl)) gD (Ne.symm hLD) (fun q hq z => ?_) S₃ (fun b o hb e => (hs₃.2 b fun z => ?_).trans ((hs₂.2 b hb).trans (hle b o e))) hJ
  · have := (S.obj q (List.mem_append_left _ hq)).1
    rw [z, hD] at this; cases this
  · rw [z, hgC] at e; cases e
end Mine
end
section
open PySem PySem.W PySem.W.X PySem.Calls PyProof.Rows
set_option maxRecDepth 10000
namespace Mine

/-- a cell that holds v -/
def CellIs (o : Obj) (v : Option Value) : Prop := o.data = .cell v

theorem enterC {w : World} {mg mb : Str → Option Value} {A : Around} {R : Result → Shared → Prop} {s : Shared} {f : Addr} {args : List Value} {binds : List (Str × Value)} {oc : Value} {od : Option Addr} {osl : Array (Option Value)}
    {fd : FuncData} {body : List Stmt} (B : Bas w mg mb s.heap) (hA : A.depth < recursionLimit)
    (ho : (KK w).lookup f = some ⟨oc, od, .func fd, osl⟩) (hcd : codeIn (KK w) fd.code fd.qualname = true) (hbody : fd.body = .stmts body) (hbind : bindArgs fd ⟨args, []⟩ = pure binds)
    (hkind : ∀ x ∈ binds, fd.scope.names.lookup x.1 = some .local ∨ (fd.scope.names.lookup x.1 = some .cell ∧ ((cellsFrom (s.heap.objs.size + 1) fd.scope.names []).lookup x.1).isSome = true))
    (h : ∀ h₁ tk₁ E, St s.heap s.heap.objs.size (bindL (callEnvC fd s.heap.objs.size f).kindOf binds fun _ => none) [] h₁ → Bas w mg mb h₁ →
      (∀ n c, (callEnvC fd s.heap.objs.size f).cells.lookup n = some c → (∃ o, h₁.get? c = some o ∧ CellIs o (bindC (callEnvC fd s.heap.objs.size f).kindOf binds (fun _ => none) n)) ∧ s.heap.objs.size < c) →
      wpAny (model PG w) (A.deeper (callEnvC fd s.heap.objs.size f)) (execs body (callEnvC fd s.heap.objs.size f)) (fun fl s' => R (.ok (.ret (match fl with | .ret v => v | _ => .none))) s') E
        ⟨h₁, s.gens, s.drawn, tk₁, s.os⟩)
    (hclo : fd.closure = [] := by rfl) (hco : fd.scope.isCoroutine = false := by rfl) (hgen : fd.scope.isGenerator = false := by rfl) (hk : fd.scope.kind = .function := by rfl) :
    codeAny (model PG w) A (.call (.ref f) ⟨args, []⟩) R s := by
  refine codeAny_call_cells hA (B.X _ _ ho) rfl B.lim (codeRec_of B.X hcd) hbody hbind hclo hkind (fun s₁ x => ?_) hco hgen hk
  obtain ⟨⟨⟨h₁, tk₁, rfl⟩, ns, keep, fr⟩, hcell, apart, above⟩ := x
  refine h h₁ tk₁ _ ⟨ns, keep, ?_, (fun _ hp => nomatch hp), List.nodup_nil⟩ (B.keeps keep) (fun n c hc => ⟨hcell n c hc, above n c (mem_of_lookup hc)⟩)
  cases q : s.heap.get? s.heap.objs.size with
  | none => rfl
  | some o => exact absurd (Heap.lt_size q) (Nat.lt_irrefl _)

section
variable {w : World} {M : Model} {A : Around} {E : Value → Shared → Prop} {s : Shared} {env : Env}
theorem nmC {x : Str} {pos : Pos} {c : Addr} {o : Obj} {v : Value} {Q : Value → Shared → Prop} (ho : s.heap.get? c = some o) (hv : CellIs o (some v)) (h : Q v s) (hc : env.cells.lookup x = some c := by rfl)
    (hk : env.scope.kind = .function := by rfl) (hl : env.kindOf x = some .cell := by rfl) (hd : (x == ("__debug__" : Str)) = false := by decide) :
    wpAny M A (eval (.Name x pos) env) Q E s := wpAny_Name (wpAny_loadName_cell hk hl hc ⟨o, ho, hv⟩ h) hd
theorem snC {x : Str} {c : Addr} {o : Obj} {v : Value} {v₀ : Option Value} {Q : Unit → Shared → Prop} (ho : s.heap.get? c = some o) (hv : CellIs o v₀)
    (h : ∀ h' o', h'.get? c = some o' → CellIs o' (some v) → Heap.ExtBut c s.heap h' → Q () ⟨h', s.gens, s.drawn, s.toks, s.os⟩) (hc : env.cells.lookup x = some c := by rfl)
    (hk : env.scope.kind = .function := by rfl) (hl : env.kindOf x = some .cell := by rfl) :
    wpAny M A (storeName env x v) Q E s := wpAny_storeName_cell hk hl hc ⟨o, ho, hv⟩ fun h' ⟨o', ho', hd'⟩ hs => h h' o' ho' hd' hs.extBut
end

/-- an iterator of one object -/
structure Src (w : World) (A : Around) (I : Addr) (g₀ : Heap) (n : Nat) (P : Nat → Value → Prop) (par : Nat → Obj → Prop) : Prop where
  item : ∀ i (s : Shared) (Q : Option Value → Shared → Prop) (E : Value → Shared → Prop) o, i < n → Le g₀ s.heap → s.heap.get? I = some o → par i o →
    (∀ v h' tk o', P i v → h'.get? I = some o' → par (i + 1) o' → Heap.ExtBut I s.heap h' → Q (some v) ⟨h', s.gens, s.drawn, tk, s.os⟩) → wpAny (model PG w) A (pyNext (.ref I)) Q E s
  done : ∀ (s : Shared) (Q : Option Value → Shared → Prop) (E : Value → Shared → Prop) o, Le g₀ s.heap → s.heap.get? I = some o → par n o →
    (∀ h' tk, Heap.ExtBut I s.heap h' → Q none ⟨h', s.gens, s.drawn, tk, s.os⟩) → wpAny (model PG w) A (pyNext (.ref I)) Q E s

theorem Src.list {w : World} {A : Around} {I l : Addr} {g₀ : Heap} {items : Array Value} (hh : A.handled = none) (hl : g₀.IsList l items) :
    Src w A I g₀ items.size (fun i v => items[i]? = some v) (fun i o => o.cls = .type "list_iterator" ∧ o.data = .fields #[.ref l, .int i 0]) where
  item := fun i s Q E o hi hg ho ⟨hc, hd⟩ hQ => by
    refine wpAny_pyNext_list_item (x := items[i]) ⟨o, ho, hc, hd⟩ (hg.list hl) (by simp [hi]) fun h' ⟨o', ho', hc', hd'⟩ hs' => ?_
    exact hQ _ h' s.toks o' (by simp [hi]) ho' ⟨hc', hd'⟩ hs'.extBut
  done := fun s Q E o hg ho ⟨hc, hd⟩ hQ => wpAny_pyNext_list_end hh ⟨o, ho, hc, hd⟩ (hg.list hl) (by simp) fun h' he' => hQ h' s.toks he'
theorem Src.range {w : World} {A : Around} {I : Addr} {g₀ : Heap} (hh : A.handled = none) (n : Nat) :
    Src w A I g₀ n (fun i v => ∃ t, v = .int (i : Nat) t) (fun i o => o = { cls := .type "range_iterator", dict := none, data := .fields #[rawInt (i : Nat), rawInt ((n : Int) - (i : Nat)), rawInt 1], slots := #[] }) where
  item := fun i s Q E o hi hg ho hp hQ => by
    subst hp
    refine wpAny_pyNext_range_item ho (by omega) fun h' hit' hs' => ?_
    refine hQ _ h' _ _ ⟨_, rfl⟩ hit' ?_ hs'.extBut
    have e1 : ((i + 1 : Nat) : Int) = (i : Int) + 1 := by push_cast; rfl
    have e2 : (n : Int) - ((i + 1 : Nat) : Int) = (n : Int) - (i : Int) - 1 := by push_cast; omega
    rw [e1, show (n : Int) - ((i : Int) + 1) = (n : Int) - (i : Int) - 1 by omega]
  done := fun s Q E o hg ho hp hQ => by
    subst hp
    exact wpAny_pyNext_range_end hh ho (by omega) fun h' he' => hQ h' s.toks he'

theorem St.one {g : Heap} {L : Addr} {m : Str → Option Value} {own : List (Addr × Obj)} {a : Addr} {o o' : Obj} {h h' : Heap} (S : St g L m (own ++ [(a, o)]) h) (hx : Heap.ExtBut a h h') (ho : h'.get? a = some o') : St g L m (own ++ [(a, o')]) h' := by
  have := S.upd (o := o) own.length (by simp) hx ho
  simpa [List.set_append] using this

theorem iter_name {w : World} {A : Around} {env : Env} {x : Str} {px : Pos} {I : Addr} {g₀ : Heap} {n : Nat} {P : Nat → Value → Prop} {par : Nat → Obj → Prop} (X : Src w A I g₀ n P par) (hx : env.kindOf x = some .local := by rfl)
    (hp : (env.scope.kind == .class || (env.scope.kind == .module && env.locals != env.globals)) = false := by rfl) :
    Iter w A env (.Name x px) (.ref I) g₀ n (fun i p => ∃ o, p = [(I, o)] ∧ par i o) (fun i m own m' own' => own' = own ∧ ∃ v, P i v ∧ m' = fun y => if y = x then some v else m y) := by
  constructor
  · rintro i g m own p h gens d tk os E Xx Body hi hg ⟨o, rfl, ho⟩ S hB
    have z := S.obj (I, o) (List.mem_append_right _ (.head _))
    refine X.item i ⟨h, gens, d, tk, os⟩ _ _ o hi (hg.trans S.keep) z.1 ho fun v h' tk' o' hv ho' hpar hext => ?_
    refine wpAny_of_eq (a := ()) rfl (wpAny_assign_Name (wpAny_storeName_local hx (S.one hext ho').ns (fun h₂ hn₂ hs₂ => ?_) hp))
    exact hB _ _ own h₂ _ ⟨o', rfl, hpar⟩ ⟨rfl, v, hv, rfl⟩ ((S.one hext ho').set hn₂ hs₂)
  · rintro g m own p h gens d tk os E Xx Y hg ⟨o, rfl, ho⟩ S hX
    have z := S.obj (I, o) (List.mem_append_right _ (.head _))
    refine X.done ⟨h, gens, d, tk, os⟩ _ _ o (hg.trans S.keep) z.1 ho fun h' tk' hext => ?_
    exact hX h' tk' (S.keepBut (fun b ob hb e => hext b ob (fun q => hb (by simp [q])) e))

theorem iter_cell {w : World} {A : Around} {env : Env} {x : Str} {px : Pos} {I c : Addr} {g₀ : Heap} {n : Nat} {P : Nat → Value → Prop} {par : Nat → Obj → Prop} (X : Src w A I g₀ n P par) (hc : env.cells.lookup x = some c := by rfl)
    (hk : env.scope.kind = .function := by rfl) (hl : env.kindOf x = some .cell := by rfl) :
    Iter w A env (.Name x px) (.ref I) g₀ n (fun i p => ∃ o oc v, p = [(I, o), (c, oc)] ∧ par i o ∧ CellIs oc v ∧ ∀ j, i = j + 1 → ∃ v', v = some v' ∧ P j v') (fun i m own m' own' => own' = own ∧ m' = m) := by
  constructor
  · rintro i g m own p h gens d tk os E Xx Body hi hg ⟨o, oc, v₀, rfl, ho, hoc, _⟩ S hB
    have z := S.obj (I, o) (List.mem_append_right _ (.head _))
    refine X.item i ⟨h, gens, d, tk, os⟩ _ _ o hi (hg.trans S.keep) z.1 ho fun v h' tk' o' hv ho' hpar hext => ?_
    have S₁ := S.upd (o := o) own.length (by simp) hext ho'
    rw [show (own ++ [(I, o), (c, oc)]).set own.length (I, o') = own ++ [(I, o'), (c, oc)] by simp [List.set_append]] at S₁
    have zc := S₁.obj (c, oc) (List.mem_append_right _ (.tail _ (.head _)))
    refine wpAny_of_eq (a := ()) rfl (wpAny_assign_Name (snC (s := ⟨h', _, _, _, _⟩) zc.1 hoc (fun h₂ o₂ ho₂ hv₂ hs₂ => ?_) hc hk hl))
    have S₂ := S₁.upd (o := oc) (own.length + 1) (by simp) hs₂ ho₂
    rw [show (own ++ [(I, o'), (c, oc)]).set (own.length + 1) (c, o₂) = own ++ [(I, o'), (c, o₂)] by simp [List.set_append]] at S₂
    refine hB _ m own h₂ _ ⟨o', o₂, some v, rfl, hpar, hv₂, fun j hj => ⟨v, rfl, ?_⟩⟩ ⟨rfl, rfl⟩ S₂
    have : i = j := by omega
    subst this; exact hv
  · rintro g m own p h gens d tk os E Xx Y hg ⟨o, oc, v₀, rfl, ho, hoc, _⟩ S hX
    have z := S.obj (I, o) (List.mem_append_right _ (.head _))
    refine X.done ⟨h, gens, d, tk, os⟩ _ _ o (hg.trans S.keep) z.1 ho fun h' tk' hext => ?_
    exact hX h' tk' (S.keepBut (fun b ob hb e => hext b ob (fun q => hb (by simp [q])) e))

/-- forIter with the iterator's objects told to the step -/
theorem forIterP {w : World} {A : Around} {env : Env} {target : Expr} {it : Value} {g₀ : Heap} {n : Nat} {par : Nat → List (Addr × Obj) → Prop}
    {put : Nat → (Str → Option Value) → List (Addr × Obj) → (Str → Option Value) → List (Addr × Obj) → Prop} (I : Iter w A env target it g₀ n par put)
    {body : List Stmt} {R : Result → Shared → Prop} {d : Drawn} {os : OsState}
    (J : Nat → Heap → (Str → Option Value) → List (Addr × Obj) → Array GenState → Prop)
    {g : Heap} {m : Str → Option Value} {own p : List (Addr × Obj)} {h : Heap} {gens : Array GenState} {tk : Nat}
    (hg : Le g₀ g) (hp : par 0 p) (S : St g env.locals m (own ++ p) h) (hj : J 0 g m own gens)
    (step : ∀ (E : Value → Shared → Prop) i g m own m' own' p h tk gens, i < n → Le g₀ g → J i g m own gens → put i m own m' own' → par (i + 1) p → St g env.locals m' (own' ++ p) h →
      wpAny (model PG w) A (execs body env) (fun f s₂ => match f with
        | .next | .cont => ∃ g' m'' own'' h' tk' gens', s₂ = ⟨h', gens', d, tk', os⟩ ∧ Le g g' ∧ St g' env.locals m'' (own'' ++ p) h' ∧ J (i + 1) g' m'' own'' gens'
        | .brk => R (.ok .next) s₂
        | .ret v => R (.ok (.ret v)) s₂) E ⟨h, gens, d, tk, os⟩)
    (done : ∀ g m own h tk gens, Le g₀ g → J n g m own gens → St g env.locals m own h → R (.ok .next) ⟨h, gens, d, tk, os⟩) :
    codeAny (model PG w) A (.forLoop target it body [] env) R ⟨h, gens, d, tk, os⟩ := by
  refine codeAny_forLoop_any
    (fun k s' => ∃ i g m own p h gens tk, k = n + 1 - i ∧ i ≤ n ∧ s' = ⟨h, gens, d, tk, os⟩ ∧ Le g₀ g ∧ par i p ∧ St g env.locals m (own ++ p) h ∧ J i g m own gens)
    ?_ (n + 1) ⟨0, g, m, own, p, h, gens, tk, rfl, Nat.zero_le _, rfl, hg, hp, S, hj⟩
  rintro k s' ⟨i, g, m, own, p, h, gens, tk, rfl, hi, rfl, hg, hp, S, hj⟩
  by_cases hlt : i < n
  · refine I.item hlt hg hp S fun p' m' own' h' tk' hp' hput S' => ?_
    refine wpAny_mono (step _ i g m own m' own' p' h' tk' gens hlt hg hj hput hp' S') (fun f s₃ q => ?_) fun _ _ x => x
    cases f with
    | next =>
      obtain ⟨g', m'', own'', h₂, tk₂, gens₂, rfl, hle, S₂, hj₂⟩ := q
      exact ⟨n + 1 - (i + 1), by omega, i + 1, g', m'', own'', p', h₂, gens₂, tk₂, rfl, hlt, rfl, hg.trans hle, hp', S₂, hj₂⟩
    | cont =>
      obtain ⟨g', m'', own'', h₂, tk₂, gens₂, rfl, hle, S₂, hj₂⟩ := q
      exact ⟨n + 1 - (i + 1), by omega, i + 1, g', m'', own'', p', h₂, gens₂, tk₂, rfl, hlt, rfl, hg.trans hle, hp', S₂, hj₂⟩
    | brk => exact q
    | ret v => exact q
  · obtain rfl : i = n := by omega
    exact I.stop hg hp S fun h' tk' S' => wpAny_execs_nil (done g m own h' tk' gens hg hj S')
end Mine
end
section
open PySem PySem.W PySem.W.X PySem.Calls PyProof.Rows
set_option maxRecDepth 10000
namespace Mine

theorem sum_ints {w : World} {A : Around} {E : Value → Shared → Prop} {s : Shared} {l : Addr} {vs : List Value} {ns : List Int} {Q : Value → Shared → Prop} (hh : A.handled = none) (hl : s.heap.IsList l vs.toArray) (hi : IntsAre vs ns)
    (h : ∀ h' tk k t, Le s.heap h' → Q (.int k t) ⟨h', s.gens, s.drawn, tk, s.os⟩) : wpAny (model PG w) A (call (.builtin "sum") [.ref l]) Q E s := by
  refine call_sum_walkG (wpAny_pyIter_list hl ?_)
  have hne : l ≠ s.heap.objs.size := by obtain ⟨o, ho, _⟩ := hl; exact Nat.ne_of_lt (Heap.lt_size ho)
  refine ⟨s.heap.objs.size, [s.heap.objs.size, l], [s.heap.objs.size], vs.toArray.size, _, _, fun i => ns.getD i 0, rfl, Walks.list (A := A.in1) hh s.heap.objs.size l hne vs.toArray, ⟨⟨_, Heap.get?_push_size _ rfl, rfl, rfl⟩, ?_⟩, fun b hb => ?_, fun i v hv => ?_, fun h' tk t hk => ?_⟩
  · obtain ⟨o, ho, r⟩ := hl; exact ⟨o, Heap.get?_push_of_some _ ho, r⟩
  · show b < (s.heap.push _).objs.size
    rw [Heap.size_push]
    obtain ⟨o, ho, _⟩ := hl
    rcases List.mem_cons.mp hb with rfl | hb
    · exact Nat.lt_succ_self _
    · rw [List.mem_singleton.mp hb]; exact Nat.lt_succ_of_lt (Heap.lt_size ho)
  · have hv' : vs[i]? = some v := by simpa using hv
    clear hv hne hl
    induction hi generalizing i with
    | nil => simp at hv'
    | cons n t r ih =>
      cases i with
      | zero => exact ⟨t, by simp at hv'; simp [← hv']⟩
      | succ i =>
        obtain ⟨t', e⟩ := ih i (by simpa using hv')
        exact ⟨t', by simpa using e⟩
  · refine h h' tk _ t fun b o e => hk b o (fun hb => ?_) (Heap.get?_push_of_some _ e)
    rw [List.mem_singleton] at hb
    exact absurd (Heap.lt_size e) (by rw [hb]; exact Nat.lt_irrefl _)

theorem ints_filterMap {vs : List Value} {ns : List Int} (hi : IntsAre vs ns) : ∀ l : List Nat, ∃ ms, IntsAre (l.filterMap (vs[·]?)) ms
  | [] => ⟨[], .nil⟩
  | i :: l => by
    obtain ⟨ms, hm⟩ := ints_filterMap hi l
    have key : ∀ {vs : List Value} {ns : List Int}, IntsAre vs ns → ∀ (i : Nat) v, vs[i]? = some v → ∃ k t, v = .int k t := by
      intro vs ns hi
      induction hi with
      | nil => intro i v h; simp at h
      | cons n t r ih =>
        intro i v h
        cases i with
        | zero => simp at h; exact ⟨n, t, h.symm⟩
        | succ i => exact ih i v (by simpa using h)
    cases hv : vs[i]? with
    | none => exact ⟨ms, by rw [List.filterMap_cons, hv]; exact hm⟩
    | some v =>
      obtain ⟨k, t, rfl⟩ := key hi i v hv
      exact ⟨k :: ms, by rw [List.filterMap_cons, hv]; exact .cons k t hm⟩
theorem ints_slice {vs : List Value} {ns : List Int} (hi : IntsAre vs ns) (lo hi' st : Option Int) : ∃ ws ms, slicePick vs.toArray lo hi' st = List.toArray ws ∧ IntsAre ws ms := by
  unfold slicePick
  obtain ⟨ms, hm⟩ := ints_filterMap hi (sliceRange (sliceBounds lo hi' st vs.toArray.size).1 (sliceBounds lo hi' st vs.toArray.size).2.1 (sliceBounds lo hi' st vs.toArray.size).2.2)
  refine ⟨_, ms, rfl, ?_⟩
  simpa using hm

theorem addL {w : World} {A : Around} {E : Value → Shared → Prop} {s : Shared} {l b : Addr} {vs ws : List Value} {Q : Value → Shared → Prop} (hl : s.heap.IsList l vs.toArray) (hb : s.heap.IsList b ws.toArray) (hsz : vs.length + ws.length ≤ 1000)
    (h : Q (.ref s.heap.objs.size) ⟨s.heap.push (lobj (vs ++ ws).toArray 0), s.gens, s.drawn, s.toks, s.os⟩) : wpAny (model PG w) A (binaryOp .Add (.ref l) (.ref b)) Q E s := by
  obtain ⟨⟨cls, dd, data, sl⟩, ho, hc, n, hd⟩ := id hl
  obtain ⟨⟨cls2, dd2, data2, sl2⟩, ho2, hc2, n2, hd2⟩ := id hb
  simp only at hc hd hc2 hd2
  subst hc hd hc2 hd2
  have e : vs.toArray ++ ws.toArray = (vs ++ ws).toArray := by simp
  refine concat_meets ⟨_, ho, rfl⟩ ⟨_, ho2, rfl⟩ noFill_list_add seq_list_add PySem.F.slot_list_add PySem.F.entry_list_add (PySem.F.args_list_add_2 _ _) (list_addW l b vs.toArray ws.toArray n n2 dd dd2 sl sl2 (by rw [List.size_toArray, List.size_toArray, sizeLine_eq]; omega)) ⟨ho, ho2, ?_⟩
  rw [e]
  exact h
end Mine
end
section
open PySem PySem.W PySem.W.X PySem.Calls PyProof.Rows
set_option maxRecDepth 10000
namespace Mine

abbrev rF : FuncData := fdI 10 (.str "law_mq0175_01" 265) (.ref 67)
abbrev rE (L : Addr) : Env := callEnvC rF L 68

theorem intsAre_snoc : ∀ {vs : List Value} {ns : List Int}, IntsAre vs ns → ∀ (k : Int) (t : Tok), IntsAre (vs ++ [.int k t]) (ns ++ [k])
  | _, _, .nil, k, t => .cons k t .nil
  | _, _, .cons n u r, k, t => .cons n u (intsAre_snoc r k t)
theorem intsAre_len : ∀ {vs : List Value} {ns : List Int}, IntsAre vs ns → vs.length = ns.length
  | _, _, .nil => rfl
  | _, _, .cons _ _ r => by simp [intsAre_len r]

theorem St.hid {g : Heap} {L : Addr} {m : Str → Option Value} {own p : List (Addr × Obj)} {h : Heap} (S : St g L m (own ++ p) h) {q : Addr × Obj} (hq : q ∈ own) : (hideAll h (p.map (·.1))).get? q.1 = some q.2 := by
  refine hideAll_get _ (S.obj q (List.mem_append_left _ hq)).1 fun hm => ?_
  have := S.apart
  rw [List.map_append] at this
  obtain ⟨_, _, ap⟩ := List.nodup_append.mp this
  exact ap q.1 (List.mem_map_of_mem hq) q.1 hm rfl
theorem St.hidG {g : Heap} {L : Addr} {m : Str → Option Value} {own p : List (Addr × Obj)} {h : Heap} (S : St g L m (own ++ p) h) : Le g (hideAll h (p.map (·.1))) := fun b o e => by
  refine hideAll_get _ (S.keep b o e) fun hm => ?_
  obtain ⟨q, hq, z⟩ := List.mem_map.mp hm
  have := (S.obj q (List.mem_append_right _ hq)).2.1
  have z' : q.1 = b := z
  rw [z', e] at this; cases this

theorem St.pushR {g : Heap} {L : Addr} {m : Str → Option Value} {own : List (Addr × Obj)} {h : Heap} (S : St g L m own h) (o : Obj) (hf : o.isFreed = false := by rfl) : St g L m (own ++ [(h.objs.size, o)]) (h.push o) :=
  (S.push o hf).perm (List.perm_append_comm (l₂ := [(h.objs.size, o)]))

set_option maxHeartbeats 8000000 in
theorem row_sums {w : World} {mg mb : Str → Option Value} {A : Around} {E : Value → Shared → Prop} {g : Heap} {L : Addr} {m : Str → Option Value} {own : List (Addr × Obj)} {h : Heap} {gens : Array GenState} {d : Drawn} {tk : Nat} {os : OsState} {oc : Obj} {sa : Addr} {ns : List Int} {Q : Flow → Shared → Prop}
    (B : Bas w mg mb g) (F : Fine A 3) (S : St g L m ((L + 1, oc) :: own) h) (hoc : CellIs oc (some (.ref sa))) (hs : IsInts g sa ns) (hlen : ns.length ≤ 63)
    (hQ : ∀ D h' tk' ys k ms, h'.get? D = some (lobj (List.toArray ys) k) → IntsAre ys ms → ys.length ≤ 4 → g.get? D = none → D ≠ L → (∀ q ∈ (L + 1, oc) :: own, q.1 ≠ D) → St g L (fun z => if z = "sums" then some (.ref D) else m z) ((L + 1, oc) :: own) h' → Q .next ⟨h', gens, d, tk', os⟩) :
    wpAny (model PG w) A (exec ((dB 10)[1]?.getD (.Pass ⟨0, 0, 0, 0⟩)) (rE L)) Q E ⟨h, gens, d, tk, os⟩ := by
  obtain ⟨vs, hl, hvs⟩ := hs
  have hvl := intsAre_len hvs
  have hcell : h.get? (L + 1) = some oc := S.at 0 rfl
  refine comp_assign (cl := [("script", L + 1)]) rfl ?_
  refine wpAny_Call_NameR (bn B S rfl boot_range (callWith_type1 (wpAny_items_cons (wpAny_Call_NameR (bn B S rfl boot_min (callWith_method1 (wpAny_items_cons (wpAny_Constant_int (wpAny_items_cons (wpAny_Call_NameR (bn B S rfl boot_len (callWith_builtin1 (nmC hcell hoc (len_list (Le.list S.keep hl) (by rw [List.size_toArray]; omega) (wpAny_items_nil (min_two_ints F.handled fun h₁ tk₁ hk₁ => wpAny_items_nil ?_))))))))))))))))
  obtain ⟨N, t, hN, e⟩ : ∃ (N : Nat) (t : Tok), N ≤ 4 ∧ (if ((vs.toArray.size : Nat) : Int) < 4 then Value.int (vs.toArray.size : Nat) (tk + 1 + 1) else Value.int 4 tk) = Value.int (N : Nat) t := by
    by_cases hlt : ((vs.toArray.size : Nat) : Int) < 4
    · exact ⟨vs.toArray.size, tk + 1 + 1, by omega, by rw [if_pos hlt]⟩
    · exact ⟨4, tk, Nat.le_refl _, by rw [if_neg hlt]; rfl⟩
  dsimp only at hk₁ ⊢
  rw [e]
  have S₁ := S.keeps hk₁
  refine call_range_1 (wpAny_pyIter_range (IsRange.new ..) (small_one (by omega) (by omega) (by omega) (by omega)) ?_)
  dsimp only
  have S₂ := S₁.pushR { cls := .type "range", data := .fields #[.int 0 tk₁, .int (N : Nat) t, .int 1 (tk₁ + 1)] }
  have S₃ := S₂.drop.pushR { cls := .type "range_iterator", data := .fields #[rawInt 0, rawInt (Builtin.Range.rangeSize 0 (N : Nat) 1), rawInt 1] }
  generalize (h₁.push { cls := .type "range", data := .fields #[.int 0 tk₁, .int (N : Nat) t, .int 1 (tk₁ + 1)] }).objs.size = I at S₃ ⊢
  generalize (h₁.push { cls := .type "range", data := .fields #[.int 0 tk₁, .int (N : Nat) t, .int 1 (tk₁ + 1)] }).push { cls := .type "range_iterator", data := .fields #[rawInt 0, rawInt (Builtin.Range.rangeSize 0 (N : Nat) 1), rawInt 1] } = h₃ at S₃ ⊢
  refine ⟨[(I, _)], N, fun i _ ys => ys.length = i ∧ i ≤ N ∧ ∃ ms, IntsAre ys ms, g, m, (L + 1, oc) :: own, ?_, S₃, ?_⟩
  · have hcg := S₃.hid (q := (L + 1, oc)) (.head _)
    have hgg := S₃.hidG
    refine ⟨fun q hq => (S₃.obj q (List.mem_append_right _ hq)).1, by simp, ⟨rfl, Nat.zero_le _, [], .nil⟩, fun i g ys hJ => by have := hJ.1; have := hJ.2.1; omega, fun C => rfl, fun C => ⟨_, _, ⟨_, rfl, ?par⟩, iter_name (Src.range F.handled N), fun i m own m' own' hp => hp.1, ?turn⟩, ?self⟩
    case par =>
      rw [rangeSize_one]
      congr 3
      split
      · simp
      · have : N = 0 := by omega
        subst this; rfl
    case turn =>
      rintro E' i g₁ m₁ ys own₁ m' q h₄ tk₄ hi hg₁ ⟨hyl, hiN, ms, hms⟩ ⟨_, v, ⟨tv, rfl⟩, rfl⟩ S₄
      refine wpAny_tests_nil ⟨g₁, h₄, tk₄, rfl, Le.refl _, S₄, ?_⟩
      rw [if_pos rfl]
      have hle := (hgg.trans hg₁).trans S₄.keep
      refine wpAny_Call_NameR (bn (B.keeps (hgg.trans hg₁)) S₄ rfl boot_sum (PySem.callWith_builtin1 ?_))
      refine wpAny_Subscript_Slice_step slot_list_getitem.lookup (nmC (S₄.keep _ _ (hg₁ _ _ hcg)) hoc (wpAny_Slice (wpAny_evalPart_some (nm S₄ rfl (wpAny_evalPart_none (wpAny_evalPart_some (wpAny_Constant_int ⟨?_, ?_⟩)))))))
      · obtain ⟨o, ho, hc, _⟩ := hle.list hl
        exact ⟨o, Heap.get?_push_of_some _ ho, hc⟩
      · refine wpAny_getItem_list_slice (lo := some _) (hi := none) (st := some 4) (Le.list (fun b o e => Heap.get?_push_of_some _ e) (hle.list hl)) (Heap.IsSliceOf.new ..) (.int _ _) .none (.int _ _) (by simp) ?_ (by rw [List.size_toArray, sizeLine_eq]; omega)
        obtain ⟨ws, ws', ews, hws⟩ := ints_slice hvs (some (i : Int)) none (some 4)
        rw [ews]
        refine sum_ints F.handled ⟨_, Heap.get?_push_size _ rfl, rfl, _, rfl⟩ hws fun h₅ tk₅ k tk hk₅ => ?_
        refine ⟨g₁, h₅, tk₅, rfl, Le.refl _, S₄.keeps (fun b o e => hk₅ b o (Heap.get?_push_of_some _ (Heap.get?_push_of_some _ e))), by rw [List.length_append, hyl]; rfl, by omega, ms ++ [k], intsAre_snoc hms k tk⟩
    case self =>
      intro s Q' E' hp hQ'
      exact wpAny_pyIter_rangeiter (hp _ (.head _)) hQ'
  · intro D h' tk' g₁ ys k hD hgD hDL hDo S' _ ⟨hyl, _, ms, hms⟩
    exact hQ D h' tk' ys k ms hD hms (by omega) hgD hDL hDo S'
end Mine
end
section
open PySem PySem.W PySem.W.X PySem.Calls PyProof.Rows
set_option maxRecDepth 10000
namespace Mine

set_option maxHeartbeats 4000000 in
theorem row_comp {w : World} {A : Around} {E : Value → Shared → Prop} {env : Env} {g : Heap} {m : Str → Option Value} {own : List (Addr × Obj)} {h : Heap} {gens : Array GenState} {d : Drawn} {tk : Nat} {os : OsState} {lr : Addr} {vs : List Value} {row : Row} {n : Nat} {Q : Value → Shared → Prop}
    {px py pe pos : Pos} {c : Expr} {scope : Scope} (p : Str × Int → Bool)
    (hh : A.handled = none) (S : St g env.locals m own h) (hrow : m "row" = some (.ref lr)) (hl : h.get? lr = some (lobj vs.toArray n)) (hps : Paired (TupSI g) vs row) (hlen : vs.length ≤ 100)
    (hclos : closureFor scope env = pure [])
    (test : ∀ (E : Value → Shared → Prop) C g₁ m' own' h' tk v x, TupSI g₁ v x → m' "one" = some v → St g₁ C m' own' h' →
      wpAny (model PG w) A (isTrue c (compEnvC scope [] C env) (eval c (compEnvC scope [] C env))) (fun b s => b = p x ∧ ∃ h'' tk'', s = ⟨h'', gens, d, tk'', os⟩ ∧ Le h' h'') E ⟨h', gens, d, tk, os⟩)
    (hQ : ∀ D h' tk ys k, h'.get? D = some (lobj (List.toArray ys) k) → ys.length = (row.filter p).length → Le h h' → Q (.ref D) ⟨h', gens, d, tk, os⟩)
    (hcell : ∀ y ∈ scope.names, y.2 ≠ .cell := by decide) (hkind : scope.kind = .function := by rfl) (hnames : ∀ z ∈ scope.names, z.2 = .local → scope.names.lookup z.1 = some .local := by decide)
    (hone : scope.names.lookup ("one" : Str) = some .local := by rfl)
    (hk : env.scope.kind = .function := by rfl) (hlr : env.kindOf "row" = some .local := by rfl) :
    wpAny (model PG w) A (eval (.ListComp (.Name "one" pe) [⟨.Name "one" px, .Name "row" py, [c], 0⟩] scope pos) env) Q E ⟨h, gens, d, tk, os⟩ := by
  have hkc : ∀ C, (compEnvC scope [] C env).scope.kind = .function := fun C => hkind
  have hko : ∀ C, (compEnvC scope [] C env).kindOf "one" = some .local := fun C => lookup_relabel_local hone
  refine comp_eval (cl := []) hclos ?_ hcell hkind hnames
  refine nm S hrow (wpAny_pyIter_list (s := ⟨h, _, _, _, _⟩) (l := lr) (items := vs.toArray) ⟨_, hl, rfl, _, rfl⟩ ?_) hk hlr
  dsimp only
  have hne : lr ≠ h.objs.size := Nat.ne_of_lt (Heap.lt_size hl)
  have hI : (h.push { cls := .type "list_iterator", data := .fields #[.ref lr, .int 0 0] }).get? h.objs.size = some { cls := .type "list_iterator", data := .fields #[.ref lr, .int 0 0] } := Heap.get?_push_size _ rfl
  have hold : Le h (hideAll (h.push { cls := .type "list_iterator", data := .fields #[.ref lr, .int 0 0] }) [h.objs.size]) := fun b o e => hideAll_get _ (Heap.get?_push_of_some _ e) fun hm => by
    rw [List.mem_singleton] at hm
    exact absurd (Heap.lt_size e) (by rw [hm]; exact Nat.lt_irrefl _)
  generalize h.objs.size = I at hne hI hold ⊢
  generalize h.push { cls := .type "list_iterator", data := .fields #[.ref lr, .int 0 0] } = h₂ at hI hold ⊢
  refine ⟨[(I, { cls := .type "list_iterator", data := .fields #[.ref lr, .int 0 0] })], vs.toArray.size, fun i _ ys => ys.length = ((row.take i).filter p).length ∧ i ≤ vs.length, ?_, ?_⟩
  · refine ⟨fun q hq => by rw [List.mem_singleton.mp hq]; exact hI, by simp, ⟨rfl, Nat.zero_le _⟩, fun i g ys hJ => ?small, fun C => rfl, fun C => ⟨_, _, ⟨_, rfl, rfl, rfl⟩, iter_name (Src.list (l := lr) hh (Le.list hold ⟨_, hl, rfl, _, rfl⟩)) (hko C) (by rw [hkc]; rfl), fun i m own m' own' hp => hp.1, ?turn⟩, ?self⟩
    case small =>
      have h1 := List.length_filter_le p (row.take i)
      have h2 : (row.take i).length ≤ row.length := by rw [List.length_take]; omega
      have h3 := paired_length hps
      have := hJ.1
      omega
    case turn =>
      rintro E' i g₁ m₁ ys own₁ m' q h₄ tk₄ hi hg₁ ⟨hyl, hiN⟩ ⟨_, v, hv, rfl⟩ S₄
      have hv' : vs[i]? = some v := by simpa using hv
      obtain ⟨x, hx, hvx⟩ := paired_get hps hv'
      have hgx : TupSI g₁ v x := Le.tupSI ((S.le.trans hold).trans hg₁) hvx
      have hsn : ((row.take (i + 1)).filter p).length = ((row.take i).filter p).length + (if p x = true then 1 else 0) := by
        rw [take_snoc hx, List.filter_append, List.length_append]
        cases hpx : p x <;> simp [hpx]
      have hi' : i < vs.length := by simpa using hi
      refine wpAny_tests_one (wpAny_mono (test _ C g₁ _ _ h₄ tk₄ v x hgx (by simp) S₄) (fun b s₃ hb => ?_) fun _ _ e => e)
      obtain ⟨rfl, h₅, tk₅, rfl, hk₅⟩ := hb
      have S₅ := S₄.keeps hk₅
      refine ⟨g₁, h₅, tk₅, rfl, Le.refl _, S₅, ?_⟩
      cases hpx : p x with
      | false =>
        rw [if_neg (by simp)]
        rw [hpx] at hsn
        exact ⟨by rw [hyl, hsn]; simp, hi'⟩
      | true =>
        rw [if_pos rfl]
        rw [hpx] at hsn
        refine nm S₅ (by simp; rfl) ⟨g₁, h₅, tk₅, rfl, Le.refl _, S₅, ?_, hi'⟩ (hkc C) (hko C)
        rw [List.length_append, hyl, hsn]; simp
    case self =>
      intro s Q' E' hp hQ'
      exact wpAny_pyIter_listiter ⟨_, hp _ (.head _), rfl, rfl⟩ hQ'
  · intro D h' tk' g₁ ys k hD hl' hg₁ hgD hle hJ
    refine hQ D h' tk' ys k hl' ?_ ((hold.trans hg₁).trans hle)
    rw [hJ.1, List.size_toArray, paired_length hps, List.take_length]
end Mine
end
section
open PySem PySem.W PySem.W.X PySem.Calls PyProof.Rows
set_option maxRecDepth 10000
namespace Mine

theorem row_fin {g : Heap} {L c : Addr} {m : Str → Option Value} {oc : Obj} {lr : Addr} {vs : List Value} {n : Nat} {p : List (Addr × Obj)} {h : Heap} {row : Row} {gens : Array GenState} {d : Drawn} {tk : Nat} {os : OsState} {y : Str} {t1 t2 : Tok} {k : Int} {Q : Shared → Prop}
    (S : St g L m ([(c, oc), (lr, lobj vs.toArray n)] ++ p) h) (hps : Paired (TupSI g) vs row) (hlen : vs.length ≤ 100)
    (hQ : ∀ g' h' n' ta, Le g g' → St g' L m ([(c, oc), (lr, lobj (vs ++ [Value.ref ta]).toArray n')] ++ p) h' → Paired (TupSI g') (vs ++ [Value.ref ta]) (row ++ [(y, k)]) → Q ⟨h', gens, d, tk, os⟩) :
    ∃ items, (h.push { cls := .type "tuple", data := .seq [Value.str y t1, Value.int k t2].toArray }).PlainList lr items ∧ items.size ≤ sizeLine ∧
      ∀ h' n, h'.get? lr = some (lobj (items.push (.ref h.objs.size)) n) → Heap.ExtBut lr (h.push { cls := .type "tuple", data := .seq [Value.str y t1, Value.int k t2].toArray }) h' → Q ⟨h', gens, d, tk, os⟩ := by
  have S₁ := S.push { cls := .type "tuple", data := .seq [Value.str y t1, Value.int k t2].toArray }
  have S₂ := (St.dropL (own := [_]) (rest := [(c, oc), (lr, lobj vs.toArray n)] ++ p) S₁).frz
  have hgg := (St.dropL (own := [_]) (rest := [(c, oc), (lr, lobj vs.toArray n)] ++ p) S₁).frz_le
  have hta := St.frz_at (own := [_]) (rest := [(c, oc), (lr, lobj vs.toArray n)] ++ p) S₁ (.head _)
  generalize h.push { cls := .type "tuple", data := .seq [Value.str y t1, Value.int k t2].toArray } = h₁ at *
  refine ⟨vs.toArray, ⟨n, S₂.at 1 rfl⟩, by rw [List.size_toArray, sizeLine_eq]; omega, fun h' n' hn' hs' => ?_⟩
  rw [show vs.toArray.push (Value.ref h.objs.size) = (vs ++ [Value.ref h.objs.size]).toArray by simp] at hn'
  have S₃ := S₂.upd 1 rfl hs' hn'
  exact hQ _ h' n' _ hgg S₃ (paired_snoc (paired_mono (fun _ _ => hgg.tupSI) hps) ⟨_, t1, t2, rfl, _, hta, rfl, _, rfl⟩)

theorem alph8 (i : Nat) (hi : i < 8) (t : Nat → Tok) : ∃ y u, ([Value.str "\"(\"" (t 0), .str "\")(\"" (t 1), .str "\\(" (t 2), .str "\\)" (t 3), .str "\\\"" (t 4), .str "a" (t 5), .str "\\\\" (t 6), .str "\"\\\")\"" (t 7)] : List Value)[i]? = some (.str y u) ∧ tl y ∈ Alph := by
  match i, hi with
  | 0, _ => exact ⟨_, _, rfl, by decide⟩
  | 1, _ => exact ⟨_, _, rfl, by decide⟩
  | 2, _ => exact ⟨_, _, rfl, by decide⟩
  | 3, _ => exact ⟨_, _, rfl, by decide⟩
  | 4, _ => exact ⟨_, _, rfl, by decide⟩
  | 5, _ => exact ⟨_, _, rfl, by decide⟩
  | 6, _ => exact ⟨_, _, rfl, by decide⟩
  | 7, _ => exact ⟨_, _, rfl, by decide⟩

def rbB : List Stmt := match ((dB 10)[2]? : Option Stmt) with | some (.For _ _ b _ _) => b | _ => []
def rbElse : List Stmt := match (rbB[1]? : Option Stmt) with | some (.If _ _ e _) => e | _ => []
def holeP (x : Str × Int) : Bool := decide (x.1 = qS)

/-- the row while it is built -/
structure RJ (i : Nat) (lr c : Addr) (oc : Obj) (g : Heap) (m : Str → Option Value) (own : List (Addr × Obj)) (row : Row) : Prop where
  objs : ∃ vs n, own = [(c, oc), (lr, lobj vs.toArray n)] ∧ Paired (TupSI g) vs row
  mrow : m "row" = some (.ref lr)
  pc : ∀ p ∈ row, Pc p.1
  len : row.length = i
  few : (row.filter holeP).length ≤ 4

theorem RJ.add {i : Nat} {lr c : Addr} {oc : Obj} {g g' : Heap} {m m' : Str → Option Value} {own : List (Addr × Obj)} {row : Row} {vs : List Value} {n : Nat} {y : Str} {k : Int} (J : RJ i lr c oc g m own row) (hp : Paired (TupSI g') vs (row ++ [(y, k)])) (hm : m' "row" = some (.ref lr)) (hy : Pc y) (hf : y = qS → (row.filter holeP).length < 4) :
    RJ (i + 1) lr c oc g' m' [(c, oc), (lr, lobj vs.toArray n)] (row ++ [(y, k)]) := by
  refine ⟨⟨vs, n, rfl, hp⟩, hm, fun p hp => ?_, by rw [List.length_append, J.len]; rfl, ?_⟩
  · rcases List.mem_append.mp hp with hp | hp
    · exact J.pc p hp
    · rw [List.mem_singleton.mp hp]; exact hy
  · rw [List.filter_append, List.length_append]
    by_cases hq : y = qS
    · have := hf hq
      simp [holeP, hq]; omega
    · have := J.few
      simp [holeP, hq]; exact this

set_option maxHeartbeats 8000000 in
theorem row_turn {w : World} {mg mb : Str → Option Value} {A : Around} {E : Value → Shared → Prop} {g : Heap} {L : Addr} {m : Str → Option Value} {own p : List (Addr × Obj)} {h : Heap} {gens : Array GenState} {d : Drawn} {tk : Nat} {os : OsState} {oc : Obj} {lr : Addr} {row : Row} {i : Nat} {x : Int} {tx : Tok}
    (B : Bas w mg mb g) (F : Fine A 3) (S : St g L m (own ++ p) h) (J : RJ i lr (L + 1) oc g m own row) (hi : i < 50) (mx : m "x" = some (.int x tx)) :
    wpAny (model PG w) A (execs rbB (rE L)) (fun f s₂ => match f with
        | .next | .cont => ∃ g' m'' own'' h' tk', s₂ = ⟨h', gens, d, tk', os⟩ ∧ Le g g' ∧ St g' L m'' (own'' ++ p) h' ∧ ∃ row', RJ (i + 1) lr (L + 1) oc g' m'' own'' row'
        | .brk => False
        | .ret _ => False) E ⟨h, gens, d, tk, os⟩ := by
  obtain ⟨vs, n, rfl, hps⟩ := id J.objs
  have hvl : vs.length ≤ 100 := by have := paired_length hps; have := J.len; omega
  refine wpAny_execs_cons (wpAny_Assign_Name (wpAny_BinOp (nm S mx (wpAny_Constant_int (mod_int (by decide) (sn S fun h₁ S₁ => ?_))))))
  dsimp only at S₁ ⊢
  have k0 : 0 ≤ x.fmod 5 := Int.fmod_nonneg_of_pos x (by decide)
  have k5 : x.fmod 5 < 5 := Int.fmod_lt_of_pos x (by decide)
  generalize hk : x.fmod 5 = k at S₁ k0 k5
  -- the second branch on
  have rest : ∀ (E : Value → Shared → Prop) (h₂ : Heap) (tk₂ : Nat) (t : Tok) (m' : Str → Option Value), St g L m' ([(L + 1, oc), (lr, lobj vs.toArray n)] ++ p) h₂ → m' "row" = some (.ref lr) → m' "x" = some (.int x tx) → m' "kind" = some (.int k t) →
      wpAny (model PG w) A (execs rbElse (rE L)) (fun f s₂ => match f with
        | .next | .cont => ∃ g' m'' own'' h' tk', s₂ = ⟨h', gens, d, tk', os⟩ ∧ Le g g' ∧ St g' L m'' (own'' ++ p) h' ∧ ∃ row', RJ (i + 1) lr (L + 1) oc g' m'' own'' row'
        | .brk => False
        | .ret _ => False) E ⟨h₂, gens, d, tk₂, os⟩ := by
    intro E h₂ tk₂ t m' S₂ mr mx mk
    refine wpAny_execs_cons (wpAny_If (wpAny_isTrue_Compare1 (nm S₂ mk (wpAny_Constant_int (eq_int (wpAny_truthy_bool ?_))))))
    by_cases h4 : k = 4
    · rw [if_pos (by simpa using h4)]
      have q0 : 0 ≤ (x.fdiv 5).fmod 8 := Int.fmod_nonneg_of_pos _ (by decide)
      have q8 : (x.fdiv 5).fmod 8 < 8 := Int.fmod_lt_of_pos _ (by decide)
      refine wpAny_execs_cons (app_stmt S₂ mr (S₂.at 1 rfl) (wpAny_Tuple (wpAny_items_cons (Subscript_ (wpAny_List ?_)))))
      refine wpAny_items_cons (wpAny_Constant_str (wpAny_items_cons (wpAny_Constant_str (wpAny_items_cons (wpAny_Constant_str (wpAny_items_cons (wpAny_Constant_str (wpAny_items_cons (wpAny_Constant_str (wpAny_items_cons (wpAny_Constant_str (wpAny_items_cons (wpAny_Constant_str (wpAny_items_cons (wpAny_Constant_str (wpAny_items_nil ⟨by show 8 ≤ _; rw [sizeLine_eq]; omega, ?_⟩))))))))))))))))
      dsimp only
      obtain ⟨y, u, hy, hya⟩ := alph8 ((x.fdiv 5).fmod 8).toNat (by omega) (fun i => tk₂ + 1 + i)
      have S₃ := S₂.pushR (lobj (List.toArray [Value.str "\"(\"" (tk₂ + 1), .str "\")(\"" (tk₂ + 1 + 1), .str "\\(" (tk₂ + 1 + 1 + 1), .str "\\)" (tk₂ + 1 + 1 + 1 + 1), .str "\\\"" (tk₂ + 1 + 1 + 1 + 1 + 1), .str "a" (tk₂ + 1 + 1 + 1 + 1 + 1 + 1), .str "\\\\" (tk₂ + 1 + 1 + 1 + 1 + 1 + 1 + 1), .str "\"\\\")\"" (tk₂ + 1 + 1 + 1 + 1 + 1 + 1 + 1 + 1)]) 0)
      refine wpAny_BinOp (wpAny_BinOp (nm S₃ mx (wpAny_Constant_int (floordiv_int (by decide) (wpAny_Constant_int (mod_int (by decide) (kba_turn (value' := .Name "row" ⟨0, 0, 0, 0⟩) (fun _ => rfl) (item_list ⟨_, (S₃.obj _ (List.mem_append_right _ (.head _))).1, rfl, _, rfl⟩ q0 (by omega) (by rw [List.getElem?_toArray]; exact hy) ?_))))))))
      dsimp only
      refine wpAny_items_cons (wpAny_Constant_int (wpAny_items_nil ⟨by show 2 ≤ _; rw [sizeLine_eq]; omega, ?_⟩))
      refine row_fin S₃.drop hps hvl fun g' h' n' ta hg' S' hp' => wpAny_execs_nil (wpAny_execs_nil ⟨g', m', _, h', _, rfl, hg', S', _, J.add hp' mr (.inr hya) (fun e => ?_)⟩)
      rw [e] at hya
      exact absurd hya (by decide)
    · rw [if_neg (by simpa using h4)]
      refine wpAny_execs_cons (wpAny_If (wpAny_isTrue_BoolOp (wpAny_allTrue_Or_cons (wpAny_isTrue_Compare1 (nm S₂ mk (wpAny_Constant_int (eq_int (wpAny_truthy_bool ?_))))))))
      by_cases h0 : k = 0
      · rw [if_pos (by simpa using h0), if_pos rfl]
        refine wpAny_execs_cons (app_stmt S₂ mr (S₂.at 1 rfl) (wpAny_Tuple (wpAny_items_cons (wpAny_Constant_str (wpAny_items_cons (wpAny_Constant_int (wpAny_items_nil ⟨by show 2 ≤ _; rw [sizeLine_eq]; omega, ?_⟩)))))))
        refine row_fin S₂ hps hvl fun g' h' n' ta hg' S' hp' => wpAny_execs_nil (wpAny_execs_nil (wpAny_execs_nil ⟨g', m', _, h', _, rfl, hg', S', _, J.add hp' mr (.inr (by decide)) (fun e => absurd e (by decide))⟩))
      · rw [if_neg (by simpa using h0)]
        refine wpAny_allTrue_Or_cons (wpAny_isTrue_Compare1 (nm S₂ mk (wpAny_Constant_int (eq_int (wpAny_truthy_bool ?_)))))
        by_cases h2 : k = 2
        · rw [if_pos (by simpa using h2), if_pos rfl]
          refine wpAny_execs_cons (app_stmt S₂ mr (S₂.at 1 rfl) (wpAny_Tuple (wpAny_items_cons (wpAny_Constant_str (wpAny_items_cons (wpAny_Constant_int (wpAny_items_nil ⟨by show 2 ≤ _; rw [sizeLine_eq]; omega, ?_⟩)))))))
          refine row_fin S₂ hps hvl fun g' h' n' ta hg' S' hp' => wpAny_execs_nil (wpAny_execs_nil (wpAny_execs_nil ⟨g', m', _, h', _, rfl, hg', S', _, J.add hp' mr (.inr (by decide)) (fun e => absurd e (by decide))⟩))
        · rw [if_neg (by simpa using h2)]
          refine wpAny_allTrue_Or_nil ?_
          rw [if_neg (by simp)]
          refine wpAny_execs_cons (app_stmt S₂ mr (S₂.at 1 rfl) (wpAny_Tuple (wpAny_items_cons (wpAny_Constant_str (wpAny_items_cons (wpAny_Constant_int (wpAny_items_nil ⟨by show 2 ≤ _; rw [sizeLine_eq]; omega, ?_⟩)))))))
          refine row_fin S₂ hps hvl fun g' h' n' ta hg' S' hp' => wpAny_execs_nil (wpAny_execs_nil (wpAny_execs_nil ⟨g', m', _, h', _, rfl, hg', S', _, J.add hp' mr (.inr (by decide)) (fun e => absurd e (by decide))⟩))
  refine wpAny_execs_cons (wpAny_If (wpAny_isTrue_BoolOp (wpAny_allTrue_And_cons (wpAny_isTrue_Compare1 (nm S₁ rfl (wpAny_Constant_int (wpAny_lt_int (wpAny_truthy_bool ?_))))))))
  by_cases k2 : k < 2
  · rw [if_pos (decide_eq_true k2)]
    refine wpAny_allTrue_And_cons (wpAny_isTrue_Compare1 (wpAny_Call_NameR (bn B S₁ rfl boot_len (PySem.callWith_builtin1 ?_))))
    refine row_comp holeP F.handled S₁ J.mrow (S₁.at 1 rfl) hps hvl rfl (fun E' C g₁ m' own' h' tk' v y hvy hm S' => ?_) (fun D h' tk' ys kk hD hyl hle => ?_)
    · obtain ⟨ta, u1, u2, rfl, htup⟩ := hvy
      refine wpAny_isTrue_Compare1 (Subscript_ (nm S' hm (wpAny_Constant_int (item_tupleT (htup.keeps S'.keep) (by decide) (by decide) rfl rfl (wpAny_Constant_str (eqS (wpAny_truthy_bool ⟨rfl, h', _, rfl, Le.refl _⟩)))))))
    · have S₂ := S₁.keeps hle
      refine len_list ⟨_, hD, rfl, _, rfl⟩ (by rw [List.size_toArray, hyl]; have := J.few; omega) (wpAny_Constant_int (wpAny_lt_int (wpAny_truthy_bool ?_)))
      by_cases hc : (row.filter holeP).length < 4
      · rw [if_pos (by rw [decide_eq_true_eq, List.size_toArray, hyl]; omega)]
        refine wpAny_allTrue_And_nil ?_
        rw [if_pos rfl]
        refine wpAny_execs_cons (app_stmt S₂ J.mrow (S₂.at 1 rfl) (wpAny_Tuple (wpAny_items_cons (wpAny_Constant_str (wpAny_items_cons (wpAny_BinOp (nm S₂ mx (wpAny_Constant_int (floordiv_int (by decide) (wpAny_items_nil ⟨by show 2 ≤ _; rw [sizeLine_eq]; omega, ?_⟩))))))))))
        refine row_fin S₂ hps hvl fun g' h' n' ta hg' S' hp' => wpAny_execs_nil (wpAny_execs_nil ⟨g', _, _, h', _, rfl, hg', S', _, J.add hp' J.mrow (.inl rfl) (fun _ => hc)⟩)
      · rw [if_neg (by rw [decide_eq_true_eq, List.size_toArray, hyl]; omega), if_neg (by simp)]
        refine wpAny_mono (rest _ h' _ _ _ S₂ J.mrow mx rfl) (fun f s₂ hf => ?_) fun _ _ e => e
        cases f with
        | next => exact wpAny_execs_nil hf
        | cont => exact hf
        | brk => exact hf
        | ret v => exact hf
  · rw [if_neg (by rw [decide_eq_true_eq]; exact k2), if_neg (by simp)]
    refine wpAny_mono (rest _ h₁ _ _ _ S₁ J.mrow mx rfl) (fun f s₂ hf => ?_) fun _ _ e => e
    cases f with
    | next => exact wpAny_execs_nil hf
    | cont => exact hf
    | brk => exact hf
    | ret v => exact hf
end Mine
end
section
open PySem PySem.W PySem.W.X PySem.Calls PyProof.Rows
set_option maxRecDepth 10000
namespace Mine

theorem ints_get {vs : List Value} {ns : List Int} (hi : IntsAre vs ns) : ∀ (i : Nat) v, vs[i]? = some v → ∃ k t, v = .int k t := by
  induction hi with
  | nil => intro i v h; simp at h
  | cons n t r ih =>
    intro i v h
    cases i with
    | zero => simp at h; exact ⟨n, t, h.symm⟩
    | succ i => exact ih i v (by simpa using h)

theorem insert_at {w : World} {A : Around} {E : Value → Shared → Prop} {s : Shared} {l : Addr} {vs : List Value} {n k : Nat} {t : Tok} {v : Value} {Q : Value → Shared → Prop} (hl : s.heap.get? l = some (lobj vs.toArray n)) (hlen : vs.length ≤ 100) (hk : k ≤ vs.length)
    (h : ∀ h' n', h'.get? l = some (lobj (vs.take k ++ v :: vs.drop k).toArray n') → Heap.ExtBut l s.heap h' → Q .none ⟨h', s.gens, s.drawn, s.toks, s.os⟩) : wpAny (model PG w) A (call (.builtin "list.insert") [.ref l, .int (k : Nat) t, v]) Q E s := by
  have this := IsL.update (h := s.heap) (l := l) (items := vs.toArray) (n := n) hl (fun xs => have k := if ((k : Nat) : Int) < 0 then (((k : Nat) : Int) + ((xs.size : Nat) : Int)).toNat else min ((k : Nat) : Int).toNat xs.size; (xs.extract 0 k).push v ++ xs.extract k)
  have e : (have k := if ((k : Nat) : Int) < 0 then (((k : Nat) : Int) + ((vs.toArray.size : Nat) : Int)).toNat else min ((k : Nat) : Int).toNat vs.toArray.size; (vs.toArray.extract 0 k).push v ++ vs.toArray.extract k) = (vs.take k ++ v :: vs.drop k).toArray := by
    have h1 : (if ((k : Nat) : Int) < 0 then (((k : Nat) : Int) + ((vs.toArray.size : Nat) : Int)).toNat else min ((k : Nat) : Int).toNat vs.toArray.size) = k := by
      rw [if_neg (by omega), Int.toNat_natCast, List.size_toArray, Nat.min_eq_left hk]
    dsimp only
    rw [h1]
    apply Array.ext'
    simp
    exact List.take_of_length_le (by simp)
  rw [e] at this
  generalize hkk : ((k : Nat) : Int) = kk at *
  exact call_meets PySem.F.slot_list_insert ⟨_, hl, rfl⟩ PySem.F.entry_list_insert (PySem.F.args_list_insert_3 _ _ _) (AutoListH.list_insert_list_int_val_1 l vs.toArray n kk t v (by simp [Builtin.List.listFitsIndex]; omega) (by rw [List.size_toArray, sizeLine_eq]; omega)) ⟨hl, h _ _ this (Heap.SameBut.update ..).extBut⟩

theorem paired_ins {α β : Type} {F : α → β → Prop} {a : α} {b : β} (h : F a b) : ∀ {l₁ : List α} {l₂ : List β}, Paired F l₁ l₂ → ∀ k, Paired F (l₁.take k ++ a :: l₁.drop k) (l₂.take k ++ b :: l₂.drop k)
  | _, _, .nil, k => by simpa using Paired.cons h .nil
  | _, _, .cons x r, 0 => .cons h (.cons x r)
  | _, _, .cons x r, k + 1 => .cons x (paired_ins h r k)

set_option maxHeartbeats 8000000 in
theorem row_spec {w : World} {mg mb : Str → Option Value} {A : Around} {R : Result → Shared → Prop} {s : Shared} (B : Bas w mg mb s.heap) (F : Fine A 6) {sa : Addr} {ns : List Int}
    (hs : IsInts s.heap sa ns) (hlen : ns.length ≤ 63)
    (hR : ∀ s' ra row, Ext s s' → IsRow s'.heap ra row → row.length ≤ 9 → (∀ p ∈ row, Pc p.1) → (row.filter holeP).length ≤ 5 → R (.ok (.ret (.ref ra))) s') :
    codeAny (model PG w) A (.call (.ref 68) ⟨[.ref sa], []⟩) R s := by
  obtain ⟨hp, gens, d, tk, os⟩ := s
  refine enterC (fd := rF) (binds := [("script", .ref sa)]) B F.room (ho := rfl) rfl rfl rfl (fun x hx => by rw [List.mem_singleton.mp hx]; exact .inr ⟨rfl, rfl⟩) (fun h₁ tk₁ E S B₁ hcells => ?_)
  dsimp only at S B hs hR hcells ⊢
  obtain ⟨⟨oc, hoc, hcv⟩, hLc⟩ := hcells "script" (hp.objs.size + 1) rfl
  have fresh : ∀ a, hp.objs.size ≤ a → hp.get? a = none := fun a ha => by
    cases e : hp.get? a with
    | none => rfl
    | some o' => exact absurd (Heap.lt_size e) (Nat.not_lt.mpr ha)
  have S : St hp hp.objs.size _ [(hp.objs.size + 1, oc)] h₁ := ⟨S.ns, S.keep, S.off, fun q hq => by rw [List.mem_singleton.mp hq]; exact ⟨hoc, fresh _ (Nat.le_succ _), Nat.ne_of_gt (Nat.lt_succ_self _)⟩, by simp⟩
  have hcv : CellIs oc (some (.ref sa)) := hcv
  clear hcells fresh
  generalize hp.objs.size = L at *
  have F' := F.deeper (callEnvC rF L 68)
  generalize A.deeper (callEnvC rF L 68) = A' at F' ⊢
  refine wpAny_execs_cons (wpAny_Assign_Name (wpAny_List (wpAny_items_nil ⟨by decide, ?_⟩)))
  have S₁ := S.pushR (lobj (List.toArray []) 0)
  generalize h₁.objs.size = lr at S₁ ⊢
  refine sn S₁ fun h₂ S₂ => ?_
  dsimp only at S₂ ⊢
  refine wpAny_execs_cons (row_sums B F'.less.less S₂ hcv hs hlen fun D h₃ tk₃ ys k ms hD hms hys hgD hDL hDo S₃ => ?_)
  dsimp only at S₃ ⊢
  refine wpAny_execs_cons (wpAny_For (wpAny_BinOp (wpAny_BinOp (wpAny_List (wpAny_items_cons (wpAny_Constant_int (wpAny_items_cons (wpAny_Constant_int (wpAny_items_nil ⟨by show 2 ≤ _; rw [sizeLine_eq]; omega, ?_⟩)))))))))
  dsimp only
  have hk4 : Le h₃ (h₃.push (lobj (List.toArray [Value.int 10 tk₃, Value.int 19 (tk₃ + 1)]) 0)) := fun b o e => Heap.get?_push_of_some _ e
  have ha1 : (h₃.push (lobj (List.toArray [Value.int 10 tk₃, Value.int 19 (tk₃ + 1)]) 0)).get? h₃.objs.size = some (lobj (List.toArray [Value.int 10 tk₃, Value.int 19 (tk₃ + 1)]) 0) := Heap.get?_push_size _ rfl
  have S₄ := S₃.keeps hk4
  refine nm S₄ rfl (addL (vs := [Value.int 10 tk₃, Value.int 19 (tk₃ + 1)]) (ws := ys) ⟨_, ha1, rfl, _, rfl⟩ ⟨_, hk4 _ _ hD, rfl, _, rfl⟩ (by simp; omega) ?_)
  dsimp only
  generalize hh4 : h₃.push (lobj (List.toArray [Value.int 10 tk₃, Value.int 19 (tk₃ + 1)]) 0) = h₄ at S₄ ⊢
  clear hh4 hk4 ha1
  have hk5 : Le h₄ (h₄.push (lobj ([Value.int 10 tk₃, Value.int 19 (tk₃ + 1)] ++ ys).toArray 0)) := fun b o e => Heap.get?_push_of_some _ e
  have ha2 : (h₄.push (lobj ([Value.int 10 tk₃, Value.int 19 (tk₃ + 1)] ++ ys).toArray 0)).get? h₄.objs.size = some (lobj ([Value.int 10 tk₃, Value.int 19 (tk₃ + 1)] ++ ys).toArray 0) := Heap.get?_push_size _ rfl
  have S₅ := S₄.keeps hk5
  generalize h₄.push (lobj ([Value.int 10 tk₃, Value.int 19 (tk₃ + 1)] ++ ys).toArray 0) = h₅ at *
  generalize h₄.objs.size = a2 at *
  refine wpAny_List (wpAny_items_cons (wpAny_Constant_int (wpAny_items_cons (wpAny_Constant_int (wpAny_items_nil ⟨by show 2 ≤ _; rw [sizeLine_eq]; omega, ?_⟩)))))
  dsimp only
  generalize ht5 : tk₃ + 1 + 1 = t5
  have hk6 : Le h₅ (h₅.push (lobj (List.toArray [Value.int 5 t5, Value.int 6 (t5 + 1)]) 0)) := fun b o e => Heap.get?_push_of_some _ e
  have ha3 : (h₅.push (lobj (List.toArray [Value.int 5 t5, Value.int 6 (t5 + 1)]) 0)).get? h₅.objs.size = some (lobj (List.toArray [Value.int 5 t5, Value.int 6 (t5 + 1)]) 0) := Heap.get?_push_size _ rfl
  have S₆ := S₅.keeps hk6
  have ha2' := hk6 _ _ ha2
  generalize h₅.push (lobj (List.toArray [Value.int 5 t5, Value.int 6 (t5 + 1)]) 0) = h₆ at *
  generalize h₅.objs.size = a3 at *
  refine addL (vs := [Value.int 10 tk₃, Value.int 19 (tk₃ + 1)] ++ ys) (ws := [Value.int 5 t5, Value.int 6 (t5 + 1)]) ⟨_, ha2', rfl, _, rfl⟩ ⟨_, ha3, rfl, _, rfl⟩ (by simp; omega) ?_
  dsimp only
  obtain ⟨xs, hxs⟩ : ∃ xs, IntsAre (([Value.int 10 tk₃, Value.int 19 (tk₃ + 1)] ++ ys) ++ [Value.int 5 t5, Value.int 6 (t5 + 1)]) xs :=
    ⟨_, intsAre_snoc (intsAre_snoc (IntsAre.cons 10 tk₃ (IntsAre.cons 19 (tk₃ + 1) hms)) 5 t5) 6 (t5 + 1) |> fun z => by simpa using z⟩
  have hcl : (([Value.int 10 tk₃, Value.int 19 (tk₃ + 1)] ++ ys) ++ [Value.int 5 t5, Value.int 6 (t5 + 1)]).length ≤ 8 := by simp; omega
  generalize ([Value.int 10 tk₃, Value.int 19 (tk₃ + 1)] ++ ys) ++ [Value.int 5 t5, Value.int 6 (t5 + 1)] = cs at *
  have S₇ := S₆.push (lobj cs.toArray 0)
  have S₈ := (St.dropL (own := [_]) (rest := [(L + 1, oc)] ++ [(lr, lobj (List.toArray []) 0)]) S₇).frz
  have hgg := (St.dropL (own := [_]) (rest := [(L + 1, oc)] ++ [(lr, lobj (List.toArray []) 0)]) S₇).frz_le
  have ha4 := St.frz_at (own := [_]) (rest := [(L + 1, oc)] ++ [(lr, lobj (List.toArray []) 0)]) S₇ (.head _)
  generalize h₆.push (lobj cs.toArray 0) = h₇ at *
  generalize h₆.objs.size = a4 at *
  generalize Mine.frz h₇ L ([(L + 1, oc)] ++ [(lr, lobj (List.toArray []) 0)]) = g at *
  have hlg : g.IsList a4 cs.toArray := ⟨_, ha4, rfl, _, rfl⟩
  refine wpAny_pyIter_list (s := ⟨h₇, _, _, _, _⟩) (Le.list S₈.keep hlg) ?_
  dsimp only
  have S₉ := S₈.pushR { cls := .type "list_iterator", data := .fields #[.ref a4, .int 0 0] }
  have Bg := B.keeps hgg
  refine forIterP (iter_name (Src.list (l := a4) F'.handled hlg)) (fun i g' m own gens' => gens' = gens ∧ ∃ row, RJ i lr (L + 1) oc g' m own row) (Le.refl _) ⟨_, rfl, rfl, rfl⟩ S₉
    ⟨rfl, [], ⟨⟨[], 0, rfl, .nil⟩, rfl, (fun _ h => nomatch h), rfl, Nat.zero_le _⟩⟩ ?_ ?_
  · rintro E' i g₁ m own m' own' p h₈ tk₈ gens₈ hi hg₁ ⟨rfl, row, J⟩ ⟨rfl, v, hv, rfl⟩ _ S₁₀
    have hv' : cs[i]? = some v := by simpa using hv
    obtain ⟨x, tx, rfl⟩ : ∃ x tx, v = .int x tx := by
      exact ints_get hxs i v hv'
    have hi' : i < 50 := by have : i < cs.toArray.size := hi; rw [List.size_toArray] at this; omega
    refine wpAny_mono (row_turn (Bg.keeps hg₁) F'.less.less S₁₀ ⟨J.objs, J.mrow, J.pc, J.len, J.few⟩ hi' rfl) (fun f s₂ hf => ?_) fun _ _ e => e
    cases f with
    | next => obtain ⟨g', m'', own'', h', tk', e, r1, r2, r3⟩ := hf; exact ⟨g', m'', own'', h', tk', _, e, r1, r2, rfl, r3⟩
    | cont => obtain ⟨g', m'', own'', h', tk', e, r1, r2, r3⟩ := hf; exact ⟨g', m'', own'', h', tk', _, e, r1, r2, rfl, r3⟩
    | brk => exact hf.elim
    | ret v => exact hf.elim
  · rintro g₁ m own h₈ tk₈ gens₈ hg₁ ⟨rfl, row, J⟩ S₁₀
    obtain ⟨vs, n, rfl, hps⟩ := id J.objs
    have Bg₁ := Bg.keeps hg₁
    have hlen9 : row.length ≤ 8 := by rw [J.len, List.size_toArray]; exact hcl
    have hvl : vs.length ≤ 100 := by have := paired_length hps; omega
    have hpg : Le hp h₈ := (hgg.trans hg₁).trans S₁₀.keep
    have ext : ∀ (h' : Heap) tk', Le hp h' → Ext ⟨hp, gens₈, d, tk, os⟩ ⟨h', gens₈, d, tk', os⟩ := fun h' tk' hk => ⟨hk, rfl, rfl, [], by simp, fun _ hx => nomatch hx⟩
    refine wpAny_execs_cons (wpAny_If (wpAny_isTrue_Compare1 (wpAny_BinOp (wpAny_Call_NameR (bn Bg₁ S₁₀ rfl boot_len (PySem.callWith_builtin1 ?_))))))
    refine row_comp (fun x => [qS, opS, clS].any fun y => y == x.1) F'.handled S₁₀ J.mrow (S₁₀.at 1 rfl) hps hvl rfl (fun E' C g₂ m' own' h' tk' v y hvy hm S' => ?_) (fun D h' tk' ys' kk hD hyl hle => ?_)
    · obtain ⟨ta, u1, u2, rfl, htup⟩ := hvy
      refine wpAny_isTrue_Compare1 (Subscript_ (nm S' hm (wpAny_Constant_int (item_tupleT (htup.keeps S'.keep) (by decide) (by decide) rfl rfl ?_))))
      refine wpAny_List (wpAny_items_cons (wpAny_Constant_str (wpAny_items_cons (wpAny_Constant_str (wpAny_items_cons (wpAny_Constant_str (wpAny_items_nil ⟨by show 3 ≤ _; rw [sizeLine_eq]; omega, ?_⟩)))))))
      refine SeqAt.in_listAt (fun v => match v with | .str a _ => a == y.1 | _ => false) ⟨_, Heap.get?_push_size _ rfl, rfl, _, rfl⟩ (fun v hv => ?_) (wpAny_truthy_bool ⟨by simp, _, _, rfl, fun b o e => Heap.get?_push_of_some _ e⟩)
      simp only [List.mem_toArray, List.mem_cons, List.not_mem_nil, or_false] at hv
      rcases hv with rfl | rfl | rfl
      · exact SeqAt.EqAt.str_str _ _ _ _
      · exact SeqAt.EqAt.str_str _ _ _ _
      · exact SeqAt.EqAt.str_str _ _ _ _
    · have S₁₁ := S₁₀.keeps hle
      refine len_list ⟨_, hD, rfl, _, rfl⟩ (by
        rw [List.size_toArray, hyl]
        have := List.length_filter_le (fun x : Str × Int => [qS, opS, clS].any fun y => y == x.1) row
        omega) (wpAny_Constant_int (mod_int (by decide) (wpAny_Constant_int (eq_int (wpAny_truthy_bool ?_)))))
      dsimp only
      split
      · refine wpAny_execs_cons (wpAny_Expr (MethodCall_ (nm S₁₁ J.mrow (getMethod_builtin ⟨_, S₁₁.at 1 rfl, rfl⟩ PySem.F.plainAttrs_list PySem.F.slot_list_insert PySem.F.type_list_insert (fun a e => by cases e; exact ⟨_, S₁₁.at 1 rfl, rfl⟩) (callWith_method1 ?_)))))
        refine wpAny_items_cons (wpAny_BinOp (wpAny_Call_NameR (bn Bg₁ S₁₁ rfl boot_len (PySem.callWith_builtin1 (nm S₁₁ J.mrow (len_list ⟨_, S₁₁.at 1 rfl, rfl, _, rfl⟩ (by rw [List.size_toArray]; omega) (wpAny_Constant_int (floordiv_int (by decide) ?_))))))))
        dsimp only
        refine wpAny_items_cons (wpAny_Tuple (wpAny_items_cons (wpAny_Constant_str (wpAny_items_cons ?_))))
        obtain ⟨svs, hsl, hsi⟩ := hs
        have hsvl := intsAre_len hsi
        refine Subscript_ (wpAny_BinOp (wpAny_Call_NameR (bn Bg₁ S₁₁ rfl boot_list (callWith_type1 (wpAny_items_cons (nmC (S₁₁.at 0 rfl) hcv (wpAny_items_nil ?_)))))))
        obtain ⟨so, hso, hsc, sn', hsd⟩ := (hpg.trans hle).list hsl
        refine call_list_seq sa (.inl rfl) hso hsc hsd (fun h₁₂ c' hk₁₂ hl₁₂ => ?_) (by rw [List.size_toArray, sizeLine_eq]; omega)
        dsimp only at hk₁₂ hl₁₂ ⊢
        generalize h'.objs.size = D2 at hl₁₂ ⊢
        refine wpAny_List (wpAny_items_cons (wpAny_Constant_int (wpAny_items_nil ⟨by show 1 ≤ _; rw [sizeLine_eq]; omega, ?_⟩)))
        refine addL (vs := svs) (ws := [Value.int 0 _]) ⟨_, Heap.get?_push_of_some _ hl₁₂, rfl, _, rfl⟩ ⟨_, Heap.get?_push_size _ rfl, rfl, _, rfl⟩ (by simp; omega) ?_
        dsimp only
        have head : ∀ T : Tok, ∃ k t, (svs ++ [Value.int 0 T]).toArray[(0 : Int).toNat]? = some (.int k t) := fun T => by
          cases svs with
          | nil => exact ⟨0, T, rfl⟩
          | cons v r => obtain ⟨k, t, e⟩ := ints_get hsi 0 v rfl; exact ⟨k, t, by rw [← e]; rfl⟩
        refine wpAny_Constant_int (kba_turn (value' := .Name "row" ⟨0, 0, 0, 0⟩) (fun _ => rfl) ?_)
        obtain ⟨k0, t0, hk0⟩ := head _
        refine item_list ⟨_, Heap.get?_push_size _ rfl, rfl, _, rfl⟩ (by decide) (by decide) hk0 ?_
        refine wpAny_items_nil ⟨by show 2 ≤ _; rw [sizeLine_eq]; omega, wpAny_items_nil ?_⟩
        dsimp only
        have e2 : ((vs.toArray.size : Nat) : Int).fdiv 2 = ((vs.length / 2 : Nat) : Int) := by
          rw [List.size_toArray, Int.fdiv_eq_ediv_of_nonneg _ (by decide)]; omega
        rw [e2]
        generalize hXe : (h₁₂.push _).push _ = hX
        have hkX : Le h' hX := hXe ▸ Le.trans hk₁₂ (fun b o e => Heap.get?_push_of_some _ (Heap.get?_push_of_some _ e))
        have S₁₂ := S₁₁.keeps hkX
        generalize hq0 : (Value.str (Str.ofString "?") _) = vq
        obtain ⟨tq, rfl⟩ : ∃ tq, vq = Value.str qS tq := ⟨_, hq0.symm⟩
        have S₁₃ := S₁₂.push { cls := .type "tuple", data := .seq [Value.str qS tq, Value.int k0 t0].toArray }
        have hkY : Le hX (hX.push { cls := .type "tuple", data := .seq [Value.str qS tq, Value.int k0 t0].toArray }) := fun b o e => Heap.get?_push_of_some _ e
        have htY := S₁₃.at 0 rfl
        refine insert_at (s := ⟨hX.push { cls := .type "tuple", data := .seq [Value.str qS tq, Value.int k0 t0].toArray }, _, _, _, _⟩) (vs := vs) (S₁₃.at 2 rfl) hvl (by omega) fun h₁₄ n₁₄ hn₁₄ hs₁₄ => ?_
        have S₁₄ := S₁₃.upd 2 rfl hs₁₄ hn₁₄
        dsimp only at S₁₄ ⊢
        refine wpAny_execs_nil (wpAny_execs_cons (wpAny_Return_some (nm S₁₄ J.mrow ?_)))
        have hk2 : vs.length = row.length := paired_length hps
        refine hR _ lr (row.take (vs.length / 2) ++ (qS, k0) :: row.drop (vs.length / 2)) (ext _ _ ((hgg.trans hg₁).trans S₁₄.keep)) ⟨_, ⟨_, S₁₄.at 2 rfl, rfl, _, rfl⟩, paired_ins ⟨_, tq, t0, rfl, _, S₁₄.at 0 rfl, rfl, _, rfl⟩ (paired_mono (fun _ _ x => Le.tupSI S₁₄.keep x) hps) _⟩ ?_ ?_ ?_
        · rw [List.length_append, List.length_cons, List.length_take, List.length_drop]; omega
        · intro p hp'
          rcases List.mem_append.mp hp' with hp' | hp'
          · exact J.pc p (List.mem_of_mem_take hp')
          · rcases List.mem_cons.mp hp' with rfl | hp'
            · exact .inl rfl
            · exact J.pc p (List.mem_of_mem_drop hp')
        · have e3 : (row.filter holeP).length = ((row.take (vs.length / 2)).filter holeP).length + ((row.drop (vs.length / 2)).filter holeP).length := by
            rw [← List.length_append, ← List.filter_append, List.take_append_drop]
          have := J.few
          rw [List.filter_append, List.length_append, List.filter_cons]
          split
          · rw [List.length_cons]; omega
          · omega
      · refine wpAny_execs_nil (wpAny_execs_cons (wpAny_Return_some (nm S₁₁ J.mrow ?_)))
        exact hR _ lr row (ext _ _ (hpg.trans hle)) ⟨vs, ⟨_, S₁₁.at 1 rfl, rfl, _, rfl⟩, paired_mono (fun _ _ x => Le.tupSI S₁₁.keep x) hps⟩ (by omega) J.pc (by have := J.few; omega)
end Mine
end
section
open PySem PySem.W PySem.W.X PySem.Calls PyProof.Rows
set_option maxRecDepth 10000
namespace Mine

/-- only holes are opened -/
def Fil (row : Row) (V : List Int) : Prop := ∀ (k : Nat) p, row[k]? = some p → V.contains (k : Int) = true → p.1 = qS

def bs (p : Str × Int) : Int := if p.1 = opS then 1 else if p.1 = clS then -1 else 0
def base (row : Row) : Int := (row.map bs).sum
theorem base_snoc (row : Row) (q : Str × Int) : base (row ++ [q]) = base row + bs q := by
  unfold base; rw [List.map_append, List.sum_append]; simp
def vl (V : List Int) (i : Nat) (p : Str × Int) : Int := if p.1 = opS then 1 else if p.1 = clS then -1 else if p.1 = qS then (if V.contains (i : Int) = true then 1 else -1) else 0
def hol (row : Row) (j : Nat) : List PI := holesFrom 0 (row.take j)
def bal (row : Row) (V : List Int) (j : Nat) : Int := base (row.take j) - ((hol row j).length : Int) + 2 * ((hol row j).countP (fun x => V.contains x.2) : Nat)

theorem hol_step {row : Row} {j : Nat} {p : Str × Int} (h : row[j]? = some p) : hol row (j + 1) = hol row j ++ (if p.1 = qS then [(p.2, (j : Int))] else []) := holes_step h
theorem base_step {row : Row} {j : Nat} {p : Str × Int} (h : row[j]? = some p) : base (row.take (j + 1)) = base (row.take j) + bs p := by rw [take_snoc h, base_snoc]

theorem bal_step {row : Row} {V : List Int} {j : Nat} {p : Str × Int} (h : row[j]? = some p) : bal row V (j + 1) = bal row V j + vl V j p := by
  unfold bal
  rw [base_step h, hol_step h, List.length_append, List.countP_append]
  unfold vl bs
  by_cases h1 : p.1 = opS
  · have h2 : p.1 ≠ qS := by rw [h1]; decide
    rw [if_pos h1, if_pos h1, if_neg h2]; simp; omega
  · rw [if_neg h1, if_neg h1]
    by_cases h3 : p.1 = clS
    · have h2 : p.1 ≠ qS := by rw [h3]; decide
      rw [if_pos h3, if_pos h3, if_neg h2]; simp; omega
    · rw [if_neg h3, if_neg h3]
      by_cases h2 : p.1 = qS
      · rw [if_pos h2, if_pos h2]
        cases hc : V.contains (j : Int) with
        | true => rw [if_pos rfl, List.countP_cons_of_pos (by exact hc)]; simp; omega
        | false => rw [if_neg (by simp), List.countP_cons_of_neg (by rw [hc]; simp)]; simp; omega
      · rw [if_neg h2, if_neg h2]; simp

theorem shownAt_vl {row : Row} {V : List Int} (hV : Fil row V) {j : Nat} {p : Str × Int} (h : row[j]? = some p) : shownAt V j p = if vl V j p = 1 then [40] else if vl V j p = -1 then [41] else [] := by
  unfold shownAt vl
  by_cases h1 : p.1 = opS
  · rw [if_pos (.inl h1), if_pos h1]; rfl
  · rw [if_neg h1]
    by_cases h3 : p.1 = clS
    · have hc : V.contains (j : Int) ≠ true := fun hc => by have := hV j p h hc; rw [h3] at this; exact absurd this (by decide)
      rw [if_neg (by simp [h1]; simpa using hc), if_pos (.inl h3), if_pos h3]; rfl
    · rw [if_neg h3]
      by_cases h2 : p.1 = qS
      · rw [if_pos h2]
        cases hc : V.contains (j : Int) with
        | true => rw [if_pos (.inr rfl)]; rfl
        | false => rw [if_neg (by simp [h1]), if_pos (.inr h2)]; rfl
      · have hc : V.contains (j : Int) ≠ true := fun hc => h2 (hV j p h hc)
        rw [if_neg (by simp [h1]; simpa using hc), if_neg (by simp [h2, h3]), if_neg h2]; rfl

theorem lev_step {row : Row} {V : List Int} (hV : Fil row V) {j : Nat} {p : Str × Int} (h : row[j]? = some p) : lev 0 (shownFrom V 0 (row.take (j + 1))) = (lev 0 (shownFrom V 0 (row.take j))).bind fun k => lev k (if vl V j p = 1 then [40] else if vl V j p = -1 then [41] else []) := by
  rw [take_snoc h, shownFrom_snoc, take_len h, Nat.zero_add, lev_append, shownAt_vl hV h]

theorem vl_cases (V : List Int) (j : Nat) (p : Str × Int) : vl V j p = 1 ∨ vl V j p = -1 ∨ vl V j p = 0 := by
  unfold vl
  split
  · exact .inl rfl
  · split
    · exact .inr (.inl rfl)
    · split
      · split
        · exact .inl rfl
        · exact .inr (.inl rfl)
      · exact .inr (.inr rfl)

theorem bal_zero (row : Row) (V : List Int) : bal row V 0 = 0 := by simp [bal, hol, base, holesFrom]

theorem lev_fwd {row : Row} {V : List Int} (hV : Fil row V) : ∀ (j : Nat), j ≤ row.length → ∀ k, lev 0 (shownFrom V 0 (row.take j)) = some k → bal row V j = (k : Nat) ∧ ∀ i, i ≤ j → 0 ≤ bal row V i
  | 0, _, k, h => by
    have : k = 0 := by simpa [shownFrom, lev] using h.symm
    subst this
    refine ⟨bal_zero _ _, fun i hi => ?_⟩
    rw [Nat.le_zero.mp hi, bal_zero]; exact Int.le_refl _
  | j + 1, hj, k, h => by
    have hp : row[j]? = some row[j] := List.getElem?_eq_getElem (by omega)
    rw [lev_step hV hp] at h
    cases hl : lev 0 (shownFrom V 0 (row.take j)) with
    | none => rw [hl] at h; cases h
    | some k0 =>
      rw [hl] at h
      obtain ⟨e, all⟩ := lev_fwd hV j (by omega) k0 hl
      have hb := bal_step (V := V) hp
      have key : bal row V (j + 1) = (k : Nat) := by
        rw [hb, e]
        rcases vl_cases V j row[j] with hv | hv | hv
        · rw [hv] at h ⊢
          have : k0 + 1 = k := by simpa [lev] using h
          omega
        · rw [hv] at h ⊢
          cases k0 with
          | zero => simp [lev] at h
          | succ k0 =>
            have : k0 = k := by simpa [lev] using h
            omega
        · rw [hv] at h ⊢
          have : k0 = k := by simpa [lev] using h
          omega
      refine ⟨key, fun i hi => ?_⟩
      rcases Nat.lt_or_ge i (j + 1) with h1 | h1
      · exact all i (by omega)
      · have : i = j + 1 := by omega
        subst this
        rw [key]; omega

theorem lev_bwd {row : Row} {V : List Int} (hV : Fil row V) : ∀ (j : Nat), j ≤ row.length → (∀ i, i ≤ j → 0 ≤ bal row V i) → ∃ k : Nat, lev 0 (shownFrom V 0 (row.take j)) = some k ∧ bal row V j = (k : Nat)
  | 0, _, _ => ⟨0, by simp [shownFrom, lev], by rw [bal_zero]; rfl⟩
  | j + 1, hj, h => by
    have hp : row[j]? = some row[j] := List.getElem?_eq_getElem (by omega)
    obtain ⟨k0, hl, e⟩ := lev_bwd hV j (by omega) (fun i hi => h i (by omega))
    have hb := bal_step (V := V) hp
    have h1 := h (j + 1) (Nat.le_refl _)
    rw [lev_step hV hp, hl]
    rcases vl_cases V j row[j] with hv | hv | hv
    · rw [hv] at hb ⊢
      exact ⟨k0 + 1, by simp [lev], by omega⟩
    · rw [hv] at hb ⊢
      cases k0 with
      | zero => omega
      | succ k0 => exact ⟨k0, by simp [lev], by omega⟩
    · rw [hv] at hb ⊢
      exact ⟨k0, by simp [lev], by omega⟩

theorem Grd.le_len {row : Row} {i lv : Nat} {H O : List PI} (G : Grd row i lv H O) : i ≤ row.length := by
  cases G with
  | nil => exact Nat.zero_le _
  | op _ h => exact (List.getElem?_eq_some_iff.mp h).1
  | cl _ h => exact (List.getElem?_eq_some_iff.mp h).1
  | other _ h => exact (List.getElem?_eq_some_iff.mp h).1
  | hole _ h => exact (List.getElem?_eq_some_iff.mp h).1
  | clpop _ h => exact (List.getElem?_eq_some_iff.mp h).1
  | holepop _ h => exact (List.getElem?_eq_some_iff.mp h).1

theorem bs_op {p : Str × Int} (h : p.1 = opS) : bs p = 1 := by unfold bs; rw [if_pos h]
theorem bs_cl {p : Str × Int} (h : p.1 = clS) : bs p = -1 := by unfold bs; rw [if_neg (by rw [h]; decide), if_pos h]
theorem bs_q {p : Str × Int} (h : p.1 = qS) : bs p = 0 := by unfold bs; rw [if_neg (by rw [h]; decide), if_neg (by rw [h]; decide)]
theorem bs_o {p : Str × Int} (h : p.1 ≠ opS) (h2 : p.1 ≠ clS) : bs p = 0 := by unfold bs; rw [if_neg h, if_neg h2]

/-- the level of the greedy, counted -/
theorem Grd.base {row : Row} {i lv : Nat} {H O : List PI} (G : Grd row i lv H O) : (lv : Int) = Mine.base (row.take i) - (H.length : Nat) + (O.length : Nat) := by
  induction G with
  | nil => rfl
  | op G hp hq ih => rw [base_step hp, bs_op hq]; omega
  | cl G hp hq ih => rw [base_step hp, bs_cl hq]; omega
  | other G hp h1 h2 h3 ih => rw [base_step hp, bs_o h1 h2]; omega
  | hole G hp hq hK ih =>
    have := hK.length_eq
    rw [List.length_cons] at this
    rw [base_step hp, bs_q hq]; omega
  | clpop G hp hq hx hl ih =>
    have := hx.length_eq
    rw [List.length_cons] at this
    rw [base_step hp, bs_cl hq, List.length_append, List.length_singleton]; omega
  | holepop G hp hq hK hx hl ih =>
    have h1 := hx.length_eq
    have h2 := hK.length_eq
    rw [List.length_cons] at h1 h2
    rw [base_step hp, bs_q hq, List.length_append, List.length_singleton]; omega

theorem countP_split {α : Type} (f u : α → Bool) : ∀ l : List α, l.countP f = l.countP (fun x => f x && u x) + l.countP (fun x => f x && !u x)
  | [] => rfl
  | x :: l => by
    rw [List.countP_cons, List.countP_cons, List.countP_cons, countP_split f u l]
    cases f x <;> cases u x <;> simp <;> omega
theorem countP_le_of {α : Type} (f g : α → Bool) (h : ∀ x, f x = true → g x = true) (l : List α) : l.countP f ≤ l.countP g := List.countP_mono_left fun x _ => h x

/-- closed upwards -/
def Up (u : PI → Bool) : Prop := ∀ x y, u x = true → le x y → u y = true

theorem pop_up {row : Row} {i : Nat} {H' O : List PI} {x : PI} {V : List Int} {u : PI → Bool} (hu : Up u) (G : Grd row (i + 1) 1 H' (O ++ [x])) (hb : 0 ≤ bal row V (i + 1)) (hx : ∀ y ∈ H', le x y)
    (ih : O.countP u ≤ (hol row (i + 1)).countP fun z => V.contains z.2 && u z) : (O ++ [x]).countP u ≤ (hol row (i + 1)).countP fun z => V.contains z.2 && u z := by
  cases hux : u x with
  | false => rw [List.countP_append, List.countP_singleton, hux]; simpa using ih
  | true =>
    have hperm : (H' ++ (O ++ [x])).Perm (hol row (i + 1)) := G.holes
    have hlen := hperm.length_eq
    have hbase := G.base
    unfold bal at hb
    rw [← hlen] at hb
    rw [List.length_append] at hb
    have hH : H'.countP (fun z => !u z) = 0 := by
      rw [List.countP_eq_zero]
      intro y hy
      rw [hu x y hux (hx y hy)]; simp
    have h1 : (hol row (i + 1)).countP (fun z => !u z) = (O ++ [x]).countP (fun z => !u z) := by
      rw [← hperm.countP_eq, List.countP_append, hH, Nat.zero_add]
    have h2 := countP_split (fun z : PI => V.contains z.2) u (hol row (i + 1))
    have h3 := countP_le_of (fun z : PI => V.contains z.2 && !u z) (fun z => !u z) (fun z hz => by rw [Bool.and_eq_true] at hz; exact hz.2) (hol row (i + 1))
    have h4 := countP_split (fun _ : PI => true) u (O ++ [x])
    rw [List.countP_true] at h4
    simp only [Bool.true_and] at h4
    have h5 : (O ++ [x]).countP (fun z => u z) = (O ++ [x]).countP u := rfl
    rw [h5] at h4
    omega

theorem Grd.up {row : Row} {V : List Int} {u : PI → Bool} (hu : Up u) {i lv : Nat} {H O : List PI} (G : Grd row i lv H O) : (∀ j, j ≤ i → 0 ≤ bal row V j) → O.countP u ≤ (hol row i).countP fun z => V.contains z.2 && u z := by
  have grow : ∀ {i : Nat} {p : Str × Int}, row[i]? = some p → (hol row i).countP (fun z => V.contains z.2 && u z) ≤ (hol row (i + 1)).countP fun z => V.contains z.2 && u z := fun hp => by
    rw [hol_step hp, List.countP_append]; omega
  induction G with
  | nil => intro _; simp
  | op G hp hq ih => intro hb; exact Nat.le_trans (ih fun j hj => hb j (by omega)) (grow hp)
  | cl G hp hq ih => intro hb; exact Nat.le_trans (ih fun j hj => hb j (by omega)) (grow hp)
  | other G hp h1 h2 h3 ih => intro hb; exact Nat.le_trans (ih fun j hj => hb j (by omega)) (grow hp)
  | hole G hp hq hK ih => intro hb; exact Nat.le_trans (ih fun j hj => hb j (by omega)) (grow hp)
  | clpop G hp hq hx hl ih =>
    intro hb
    exact pop_up hu (.clpop G hp hq hx hl) (hb _ (Nat.le_refl _)) (fun y hy => hl y (hx.mem_iff.mpr (List.mem_cons_of_mem _ hy))) (Nat.le_trans (ih fun j hj => hb j (by omega)) (grow hp))
  | holepop G hp hq hK hx hl ih =>
    intro hb
    exact pop_up hu (.holepop G hp hq hK hx hl) (hb _ (Nat.le_refl _)) (fun y hy => hl y (hx.mem_iff.mpr (List.mem_cons_of_mem _ hy))) (Nat.le_trans (ih fun j hj => hb j (by omega)) (grow hp))

theorem hol_all (row : Row) : hol row row.length = holesFrom 0 row := by unfold hol; rw [List.take_length]

theorem greedy_fails {row : Row} {V : List Int} (hF : Fails row) (hV : Fil row V) : lev 0 (shownFrom V 0 row) ≠ some 0 := by
  intro h
  have h' : lev 0 (shownFrom V 0 (row.take row.length)) = some 0 := by rw [List.take_length]; exact h
  obtain ⟨he, hb⟩ := lev_fwd hV row.length (Nat.le_refl _) 0 h'
  rcases hF with ⟨i, O, p, G, hp, hq⟩ | ⟨lv, H, O, G⟩
  · have hlt := (List.getElem?_eq_some_iff.mp hp).1
    have h1 := hb (i + 1) hlt
    have hbase := G.base
    have hlen := G.holes.length_eq
    rw [bal_step hp] at h1
    have hv : vl V i p = -1 := by unfold vl; rw [if_neg (by rw [hq]; decide), if_pos hq]
    rw [hv] at h1
    unfold bal at h1
    have h2 := List.countP_le_length (p := fun x : PI => V.contains x.2) (l := hol row i)
    have h3 : (hol row i).length = O.length := by rw [← List.nil_append O]; exact hlen.symm
    rw [List.length_nil] at hbase
    omega
  · have hup := G.up (V := V) (u := fun _ => true) (fun _ _ _ _ => rfl) hb
    have hbase := G.base
    have hlen := G.holes.length_eq
    rw [List.length_append] at hlen
    rw [List.countP_true] at hup
    simp only [Bool.and_true] at hup
    unfold bal at he
    have h3 : (hol row row.length).length = H.length + O.length := hlen.symm
    omega

theorem holesFrom_sndnd : ∀ (row : Row) (k : Nat), ((holesFrom k row).map (·.2)).Nodup
  | [], _ => List.nodup_nil
  | p :: r, k => by
    rw [holesFrom, List.map_append]
    refine List.nodup_append.mpr ⟨?_, holesFrom_sndnd r (k + 1), fun a ha b hb e => ?_⟩
    · split
      · simp
      · exact List.nodup_nil
    · obtain ⟨y, hy, rfl⟩ := List.mem_map.mp hb
      have h2 := holesFrom_snd r (k + 1) y hy
      split at ha
      · have : a = (k : Int) := by simpa using ha
        omega
      · cases ha
theorem holesFrom_mem : ∀ (row : Row) (k : Nat) (x : PI), x ∈ holesFrom k row → ∃ j : Nat, x.2 = ((k + j : Nat) : Int) ∧ row[j]? = some (qS, x.1)
  | [], k, x, h => nomatch h
  | p :: r, k, x, h => by
    rw [holesFrom] at h
    rcases List.mem_append.mp h with h | h
    · split at h
      · rename_i hq
        rw [List.mem_singleton.mp h]
        refine ⟨0, rfl, ?_⟩
        show some p = some (qS, p.2)
        rw [← hq]
      · cases h
    · obtain ⟨j, h1, h2⟩ := holesFrom_mem r (k + 1) x h
      exact ⟨j + 1, by rw [h1]; congr 1; omega, by simpa using h2⟩
theorem holesFrom_take (row : Row) (i : Nat) : ∀ x ∈ hol row i, x ∈ holesFrom 0 row := by
  have key : ∀ (a b : Row) (k : Nat), holesFrom k (a ++ b) = holesFrom k a ++ holesFrom (k + a.length) b := by
    intro a
    induction a with
    | nil => intro b k; rfl
    | cons p r ih =>
      intro b k
      simp only [List.cons_append, holesFrom, ih b (k + 1), List.length_cons]
      rw [List.append_assoc, show k + 1 + r.length = k + (r.length + 1) by omega]
  intro x hx
  rw [← List.take_append_drop i row, key]
  exact List.mem_append_left _ hx

theorem fil_sub {row : Row} {L : List PI} (h : ∀ x ∈ L, x ∈ holesFrom 0 row) : Fil row (L.map (·.2)) := by
  intro k p hp hc
  rw [List.contains_iff_mem] at hc
  obtain ⟨x, hx, e⟩ := List.mem_map.mp hc
  obtain ⟨j, h1, h2⟩ := holesFrom_mem row 0 x (h x hx)
  have : j = k := by omega
  subst this
  rw [hp] at h2
  have : p = (qS, x.1) := by simpa using h2
  rw [this]

theorem Grd.own {row : Row} {i lv : Nat} {H O : List PI} (G : Grd row i lv H O) : (hol row i).countP (fun x => (O.map (·.2)).contains x.2) = O.length := by
  have hperm : (H ++ O).Perm (hol row i) := G.holes
  have nd : ((H ++ O).map (·.2)).Nodup := (hperm.map _).nodup_iff.mpr (holesFrom_sndnd _ _)
  rw [List.map_append] at nd
  obtain ⟨_, _, ap⟩ := List.nodup_append.mp nd
  rw [← hperm.countP_eq, List.countP_append]
  have h1 : H.countP (fun x => (O.map (·.2)).contains x.2) = 0 := by
    rw [List.countP_eq_zero]
    intro y hy hc
    rw [List.contains_iff_mem] at hc
    exact ap y.2 (List.mem_map_of_mem hy) y.2 hc rfl
  have h2 : O.countP (fun x => (O.map (·.2)).contains x.2) = O.length := by
    rw [List.countP_eq_length]
    intro y hy
    rw [List.contains_iff_mem]
    exact List.mem_map_of_mem hy
  omega
theorem Grd.balO {row : Row} {i lv : Nat} {H O : List PI} (G : Grd row i lv H O) : bal row (O.map (·.2)) i = (lv : Nat) := by
  have h1 := G.own
  have h2 := G.base
  have h3 : (hol row i).length = H.length + O.length := by rw [← List.length_append]; exact G.holes.length_eq.symm
  unfold bal
  rw [h1, h3]; omega
theorem bal_mono {row : Row} {V W : List Int} (h : ∀ k, V.contains k = true → W.contains k = true) (j : Nat) : bal row V j ≤ bal row W j := by
  unfold bal
  have := countP_le_of (fun x : PI => V.contains x.2) (fun x => W.contains x.2) (fun x => h x.2) (hol row j)
  omega
theorem Grd.pos {row : Row} {i lv : Nat} {H O : List PI} (G : Grd row i lv H O) : ∀ j, j ≤ i → 0 ≤ bal row (O.map (·.2)) j := by
  have last : ∀ {i lv : Nat} {H O : List PI}, Grd row (i + 1) lv H O → (∀ j, j ≤ i → 0 ≤ bal row (O.map (·.2)) j) → ∀ j, j ≤ i + 1 → 0 ≤ bal row (O.map (·.2)) j := fun {i lv H O} G h j hj => by
    rcases Nat.lt_or_ge j (i + 1) with h1 | h1
    · exact h j (by omega)
    · have : j = i + 1 := by omega
      subst this
      rw [G.balO]; omega
  have more : ∀ (O : List PI) (x : PI) (j : Nat), 0 ≤ bal row (O.map (·.2)) j → 0 ≤ bal row ((O ++ [x]).map (·.2)) j := fun O x j h => Int.le_trans h (bal_mono (fun k hk => by
    rw [List.contains_iff_mem] at hk ⊢
    rw [List.map_append]
    exact List.mem_append_left _ hk) j)
  induction G with
  | nil => intro j hj; rw [Nat.le_zero.mp hj, bal_zero]; exact Int.le_refl _
  | op G hp hq ih => exact last (.op G hp hq) ih
  | cl G hp hq ih => exact last (.cl G hp hq) ih
  | other G hp h1 h2 h3 ih => exact last (.other G hp h1 h2 h3) ih
  | hole G hp hq hK ih => exact last (.hole G hp hq hK) ih
  | clpop G hp hq hx hl ih => exact last (.clpop G hp hq hx hl) fun j hj => more _ _ j (ih j hj)
  | holepop G hp hq hK hx hl ih => exact last (.holepop G hp hq hK hx hl) fun j hj => more _ _ j (ih j hj)

theorem greedy_feas {row : Row} {H O : List PI} (G : Grd row row.length 0 H O) : lev 0 (shownFrom (O.map (·.2)) 0 row) = some 0 := by
  obtain ⟨k, h1, h2⟩ := lev_bwd (V := O.map (·.2)) (fil_sub G.opened.2.2) row.length (Nat.le_refl _) G.pos
  rw [G.balO] at h2
  have : k = 0 := by omega
  subst this
  rw [List.take_length] at h1
  exact h1

theorem filter_sublist {L l : List PI} (h : L.Sublist l) (nd : (l.map (·.2)).Nodup) : l.filter (fun x => (L.map (·.2)).contains x.2) = L := by
  induction h with
  | slnil => rfl
  | @cons l₁ l₂ a h ih =>
    rw [List.map_cons, List.nodup_cons] at nd
    rw [List.filter_cons, if_neg, ih nd.2]
    intro hc
    rw [List.contains_iff_mem] at hc
    exact nd.1 ((h.map _).subset hc)
  | @cons_cons l₁ l₂ a h ih =>
    rw [List.map_cons, List.nodup_cons] at nd
    rw [List.filter_cons, if_pos (by simp), List.filter_congr (q := fun x => (l₁.map (·.2)).contains x.2), ih nd.2]
    intro x hx
    rw [List.map_cons, List.contains_cons]
    have : (x.2 == a.2) = false := by
      rw [beq_eq_false_iff_ne]
      intro e
      exact nd.1 (e ▸ List.mem_map_of_mem hx)
    rw [this, Bool.false_or]

theorem sorted_cmp {ps qs : List PI} (hp : ps.Pairwise fun x y => ltP x y = true) (hq : qs.Pairwise fun x y => ltP x y = true) (hl : ps.length = qs.length) (h : ∀ u, Up u → ps.countP u ≤ qs.countP u) :
    ∀ (k : Nat) p q, ps[k]? = some p → qs[k]? = some q → ltP q p = false := by
  intro k p q hkp hkq
  obtain ⟨hk1, e1⟩ := List.getElem?_eq_some_iff.mp hkp
  obtain ⟨hk2, e2⟩ := List.getElem?_eq_some_iff.mp hkq
  cases hlt : ltP q p with
  | false => rfl
  | true =>
    exfalso
    have hu : ps.countP (fun z => !ltP z p) ≤ qs.countP (fun z => !ltP z p) := h (fun z => !ltP z p) (fun x y hx hxy => by
      rw [Bool.not_eq_true', ← Bool.not_eq_true, ltP_iff] at hx ⊢
      exact le_trans hx hxy)
    have h1 : ps.length - k ≤ ps.countP (fun z => !ltP z p) := by
      rw [← List.take_append_drop k ps, List.countP_append]
      have : (ps.drop k).countP (fun z => !ltP z p) = (ps.drop k).length := by
        rw [List.countP_eq_length]
        intro z hz
        obtain ⟨j, hj⟩ := List.getElem?_of_mem hz
        rw [List.getElem?_drop] at hj
        rw [Bool.not_eq_true', ← Bool.not_eq_true, ltP_iff]
        obtain ⟨hj1, e3⟩ := List.getElem?_eq_some_iff.mp hj
        by_cases hj0 : j = 0
        · subst hj0
          have : z = p := by rw [← e3, ← e1]; rfl
          rw [this]; unfold lt; omega
        · have := List.pairwise_iff_getElem.mp hp k (k + j) hk1 hj1 (by omega)
          rw [e1, e3, ltP_iff] at this
          unfold lt at *; omega
      rw [this, List.length_drop, ← List.take_append_drop k ps]
      simp
    have h2 : qs.countP (fun z => !ltP z p) ≤ qs.length - (k + 1) := by
      rw [← List.take_append_drop (k + 1) qs, List.countP_append]
      have : (qs.take (k + 1)).countP (fun z => !ltP z p) = 0 := by
        rw [List.countP_eq_zero]
        intro z hz
        obtain ⟨j, hj⟩ := List.getElem?_of_mem hz
        rw [List.getElem?_take] at hj
        split at hj
        · rename_i hjk
          obtain ⟨hj1, e3⟩ := List.getElem?_eq_some_iff.mp hj
          have : ltP z p = true := by
            by_cases hj0 : j = k
            · subst hj0
              have : z = q := by rw [← e3, ← e2]
              rw [this]; exact hlt
            · have := List.pairwise_iff_getElem.mp hq j k hj1 hk2 (by omega)
              rw [e2, e3] at this
              exact lt_trans this hlt
          rw [this]; simp
        · cases hj
      rw [this, Nat.zero_add]
      refine Nat.le_trans List.countP_le_length ?_
      rw [List.length_drop, List.take_append_drop]
      exact Nat.le_refl _
    omega

theorem greedy_least {row : Row} {H O ps qs L : List PI} (G : Grd row row.length 0 H O) (hL : L.Sublist (holesFrom 0 row)) (hf : lev 0 (shownFrom (L.map (·.2)) 0 row) = some 0)
    (hps : ps.Perm O) (sp : ps.Pairwise fun x y => ltP x y = true) (hqs : qs.Perm L) (sq : qs.Pairwise fun x y => ltP x y = true) :
    ps.length = qs.length ∧ ∀ (k : Nat) p q, ps[k]? = some p → qs[k]? = some q → ltP q p = false := by
  have hV : Fil row (L.map (·.2)) := fil_sub fun x hx => hL.subset hx
  have hf' : lev 0 (shownFrom (L.map (·.2)) 0 (row.take row.length)) = some 0 := by rw [List.take_length]; exact hf
  obtain ⟨he, hb⟩ := lev_fwd hV row.length (Nat.le_refl _) 0 hf'
  have hO := G.balO
  have hfil := filter_sublist hL (holesFrom_sndnd row 0)
  have hc : ∀ u : PI → Bool, (hol row row.length).countP (fun z => (L.map (·.2)).contains z.2 && u z) = L.countP u := fun u => by
    rw [hol_all]
    conv => rhs; rw [← hfil]
    rw [List.countP_filter]
    exact List.countP_congr fun x _ => by rw [Bool.and_comm]
  have hc1 := hc fun _ => true
  simp only [Bool.and_true] at hc1
  rw [List.countP_true] at hc1
  have hl : ps.length = qs.length := by
    rw [hps.length_eq, hqs.length_eq]
    have := G.own
    unfold bal at he hO
    omega
  refine ⟨hl, sorted_cmp sp sq hl fun u hu => ?_⟩
  have := G.up (V := L.map (·.2)) hu hb
  rw [hc u] at this
  rw [hps.countP_eq, hqs.countP_eq]
  exact this

/-- the elements at the bits of w -/
def pick {α : Type} (w : Nat) (k : Nat) : List α → List α
  | [] => []
  | x :: r => (if w / 2 ^ k % 2 = 1 then [x] else []) ++ pick w (k + 1) r
theorem pick_snoc {α : Type} (w : Nat) (x : α) : ∀ (l : List α) (k : Nat), pick w k (l ++ [x]) = pick w k l ++ (if w / 2 ^ (k + l.length) % 2 = 1 then [x] else [])
  | [], k => by simp [pick]
  | y :: r, k => by
    simp only [List.cons_append, pick, pick_snoc w x r (k + 1), List.length_cons]
    rw [List.append_assoc, show k + 1 + r.length = k + (r.length + 1) by omega]
theorem pick_map {α β : Type} (w : Nat) (f : α → β) : ∀ (l : List α) (k : Nat), pick w k (l.map f) = (pick w k l).map f
  | [], k => rfl
  | y :: r, k => by
    simp only [List.map_cons, pick, pick_map w f r (k + 1), List.map_append]
    congr 1
    split <;> rfl
theorem pick_sub {α : Type} (w : Nat) : ∀ (l : List α) (k : Nat), (pick w k l).Sublist l
  | [], k => .slnil
  | y :: r, k => by
    rw [pick]
    split
    · exact (pick_sub w r (k + 1)).cons_cons y
    · exact (pick_sub w r (k + 1)).cons y
theorem pick_shift {α : Type} (w : Nat) : ∀ (l : List α) (k : Nat), pick w (k + 1) l = pick (w / 2) k l
  | [], k => rfl
  | y :: r, k => by
    simp only [pick, pick_shift w r (k + 1)]
    rw [Nat.div_div_eq_div_mul, Nat.pow_succ', ]
theorem pick_filter {α : Type} (f : α → Bool) : ∀ l : List α, ∃ w, w < 2 ^ l.length ∧ pick w 0 l = l.filter f
  | [] => ⟨0, by simp, rfl⟩
  | y :: r => by
    obtain ⟨w, hw, e⟩ := pick_filter f r
    rw [List.length_cons, Nat.pow_succ]
    cases hy : f y with
    | true =>
      refine ⟨2 * w + 1, by omega, ?_⟩
      rw [pick, pick_shift, show (2 * w + 1) / 2 = w by omega, e, if_pos (by simp), List.filter_cons, if_pos hy]; rfl
    | false =>
      refine ⟨2 * w, by omega, ?_⟩
      rw [pick, pick_shift, show 2 * w / 2 = w by omega, e, if_neg (by simp), List.filter_cons, if_neg (by rw [hy]; simp)]; rfl

theorem shownFrom_congr {V W : List Int} (h : ∀ k, V.contains k = W.contains k) : ∀ (row : Row) (i : Nat), shownFrom V i row = shownFrom W i row
  | [], _ => rfl
  | p :: r, i => by
    rw [shownFrom, shownFrom, shownFrom_congr h r (i + 1)]
    unfold shownAt
    rw [h]

/-- the word that opens what the greedy opens -/
theorem greedy_word {row : Row} {H O : List PI} (G : Grd row row.length 0 H O) : ∃ w, w < 2 ^ (holesFrom 0 row).length ∧ (pick w 0 (holesFrom 0 row)).Perm O ∧ lev 0 (shownFrom ((pick w 0 (holesFrom 0 row)).map (·.2)) 0 row) = some 0 := by
  obtain ⟨w, hw, e⟩ := pick_filter (fun x : PI => (O.map (·.2)).contains x.2) (holesFrom 0 row)
  have hperm : (H ++ O).Perm (holesFrom 0 row) := by have := G.holes; rw [List.take_length] at this; exact this
  have nd : ((H ++ O).map (·.2)).Nodup := (hperm.map _).nodup_iff.mpr (holesFrom_sndnd _ _)
  rw [List.map_append] at nd
  obtain ⟨_, _, ap⟩ := List.nodup_append.mp nd
  have hp : (pick w 0 (holesFrom 0 row)).Perm O := by
    rw [e]
    refine (hperm.filter _).symm.trans ?_
    rw [List.filter_append]
    have h1 : H.filter (fun x => (O.map (·.2)).contains x.2) = [] := by
      rw [List.filter_eq_nil_iff]
      intro y hy hc
      rw [List.contains_iff_mem] at hc
      exact ap y.2 (List.mem_map_of_mem hy) y.2 hc rfl
    have h2 : O.filter (fun x => (O.map (·.2)).contains x.2) = O := by
      rw [List.filter_eq_self]
      intro y hy
      rw [List.contains_iff_mem]
      exact List.mem_map_of_mem hy
    rw [h1, h2]; exact .refl _
  refine ⟨w, hw, hp, ?_⟩
  rw [shownFrom_congr (W := O.map (·.2)) (fun k => ?_)]
  · exact greedy_feas G
  · rw [Bool.eq_iff_iff, List.contains_iff_mem, List.contains_iff_mem]
    exact (hp.map _).mem_iff

theorem sorted_eq {ps qs : List PI} (h : ps.Perm qs) (hp : ps.Pairwise fun x y => ltP x y = true) (hq : qs.Pairwise fun x y => ltP x y = true) : ps = qs :=
  h.eq_of_pairwise (fun a b _ _ h1 h2 => absurd (lt_trans h1 h2) (by rw [lt_irrefl]; simp)) hp hq
end Mine
end
section
open PySem PySem.W PySem.W.X PySem.Calls PyProof.Rows
set_option maxRecDepth 10000
namespace Mine

theorem pow2 {w : World} {A : Around} {E : Value → Shared → Prop} {s : Shared} {k : Nat} {t u : Tok} {Q : Value → Shared → Prop} (hk : k ≤ 9) (h : ∀ t' k', Q (.int ((2 ^ k : Nat) : Int) t') ⟨s.heap, s.gens, s.drawn, k', s.os⟩) :
    wpAny (model PG w) A (binaryOp .Pow (.int 2 t) (.int (k : Nat) u)) Q E s := by
  have e : (((2 : Int)) ^ k) = ((2 ^ k : Nat) : Int) := by simp
  cases k with
  | zero => exact AutoIntOps.pow_0 (by decide) (by decide) (h _ _)
  | succ k =>
    refine AutoIntOps.pow_4 (by omega) (by simp; omega) (by decide) (by decide) ?_ ?_
    · rw [show ((k + 1 : Nat) : Int) = (k : Int) + 1 by push_cast; rfl]
      match k, hk with
      | 0, _ => decide +kernel
      | 1, _ => decide +kernel
      | 2, _ => decide +kernel
      | 3, _ => decide +kernel
      | 4, _ => decide +kernel
      | 5, _ => decide +kernel
      | 6, _ => decide +kernel
      | 7, _ => decide +kernel
      | 8, _ => decide +kernel
    · rw [Int.toNat_natCast, e]; exact h _ _

theorem ne_nil {w : World} {A : Around} {E : Value → Shared → Prop} {s : Shared} {l b : Addr} {vs : List Value} {Q : Value → Shared → Prop} (hl : s.heap.IsList l vs.toArray) (hb : s.heap.IsList b #[]) (hu : A.units < cLine)
    (h : Q (.bool (!decide (vs = []))) s) : wpAny (model PG w) A (compareOp .NotEq (.ref l) (.ref b)) Q E s := by
  cases vs with
  | nil =>
    refine EqBoolInt.of_rcne (SeqAt.RcNeAt.lists (e := fun _ => true) hl hb rfl hu (fun j h1 => by simp at h1)) ?_
    exact h
  | cons v vs =>
    refine EqBoolInt.of_rcne (SeqAt.RcNeAt.lists_lengths hl hb (by simp) hu) ?_
    simpa using h

/-- a list of pairs -/
def IsPrs (h : Heap) (v : Value) (qs : List PI) : Prop := ∃ D vs, v = .ref D ∧ h.IsList D (List.toArray vs) ∧ Paired (IsPr h) vs qs
theorem Le.isPrs {g h : Heap} (k : Le g h) {v : Value} {qs : List PI} (x : IsPrs g v qs) : IsPrs h v qs := let ⟨D, vs, e, l, p⟩ := x; ⟨D, vs, e, k.list l, paired_mono (fun _ _ => k.isPr) p⟩

def dPr (p : PI) : PyData := .tuple [.int p.1, .int p.2]
def dPrs (qs : List PI) : PyData := .list (qs.map dPr)
theorem pr_reads {h : Heap} {v : Value} {p : PI} (x : IsPr h v p) : Reads h v (dPr p) [] := by
  obtain ⟨t, u1, u2, rfl, o, ho, hc, n, hd⟩ := x
  exact .tuple ho hc hd (.cons (as := []) (.int _ _) (.cons (as := []) (.int _ _) .nil))
theorem prs_reads {h : Heap} : ∀ {vs : List Value} {qs : List PI}, Paired (IsPr h) vs qs → ReadsAll h vs (qs.map dPr) []
  | _, _, .nil => .nil
  | _, _, .cons x r => .cons (as := []) (pr_reads x) (prs_reads r)
theorem isPrs_reads {h : Heap} {v : Value} {qs : List PI} (x : IsPrs h v qs) : ∃ as, Reads h v (dPrs qs) as := by
  obtain ⟨D, vs, rfl, ⟨o, ho, hc, n, hd⟩, p⟩ := x
  exact ⟨_, .list ho hc hd (prs_reads p)⟩
theorem prss_reads {h : Heap} : ∀ {vs : List Value} {tls : List (List PI)}, Paired (IsPrs h) vs tls → ∃ as, ReadsAll h vs (tls.map dPrs) as
  | _, _, .nil => ⟨_, .nil⟩
  | _, _, .cons x r => by
    obtain ⟨a1, h1⟩ := isPrs_reads x
    obtain ⟨a2, h2⟩ := prss_reads r
    exact ⟨_, .cons h1 h2⟩
theorem dPrs_can0 : ∀ qs : List PI, PyData.canLayAll0 (qs.map dPr) = true
  | [] => rfl
  | _ :: r => by simp [PyData.canLayAll0, dPr, PyData.canLay0, dPrs_can0 r]
theorem dPrs_can (qs : List PI) : PyData.canLay0 (dPrs qs) = true := by simp [dPrs, PyData.canLay0, dPrs_can0]
theorem dPrss_can : ∀ tls : List (List PI), PyData.canLayAll0 (tls.map dPrs) = true
  | [] => rfl
  | _ :: r => by simp [PyData.canLayAll0, dPrs_can, dPrss_can r]
theorem dPrs_depth0 : ∀ qs : List PI, PyData.depthAll (qs.map dPr) ≤ 1
  | [] => by simp [PyData.depthAll]
  | _ :: r => by
    have := dPrs_depth0 r
    simp [PyData.depthAll, dPr, PyData.depth]; omega
theorem dPrs_depth (qs : List PI) : (dPrs qs).depth ≤ 2 := by
  have := dPrs_depth0 qs
  simp [dPrs, PyData.depth]; omega
theorem dPr_eqv (p q : PI) : PyData.eqv (dPr p) (dPr q) = decide (p = q) := by
  obtain ⟨a, b⟩ := p; obtain ⟨c, d⟩ := q
  simp only [dPr, PyData.eqv, PyData.eqvAll, Bool.and_true]
  by_cases h1 : a = c <;> by_cases h2 : b = d <;> simp [h1, h2]
theorem dPrs_eqv0 : ∀ ps qs : List PI, PyData.eqvAll (ps.map dPr) (qs.map dPr) = decide (ps = qs)
  | [], [] => by simp [PyData.eqvAll]
  | [], _ :: _ => by simp [PyData.eqvAll]
  | _ :: _, [] => by simp [PyData.eqvAll]
  | p :: ps, q :: qs => by
    simp only [List.map_cons, PyData.eqvAll, dPr_eqv, dPrs_eqv0 ps qs]
    by_cases h1 : p = q <;> by_cases h2 : ps = qs <;> simp [h1, h2]
theorem dPrs_eqv (ps qs : List PI) : PyData.eqv (dPrs ps) (dPrs qs) = decide (ps = qs) := by simp only [dPrs, PyData.eqv, dPrs_eqv0]

/-- a list of pairs in a list of lists of pairs -/
theorem in_taken {w : World} {A : Around} {E : Value → Shared → Prop} {s : Shared} {v : Value} {l : Addr} {vs : List Value} {tls : List (List PI)} {qs : List PI} {Q : Value → Shared → Prop} (hl : s.heap.IsList l vs.toArray) (ht : Paired (IsPrs s.heap) vs tls) (hv : IsPrs s.heap v qs)
    (hu : A.units + 8 < cLine) (hm : qs ∈ tls) (h : Q (.bool true) s) : wpAny (model PG w) A (compareOp .In v (.ref l)) Q E s := by
  obtain ⟨o, ho, hc, n, hd⟩ := hl
  obtain ⟨as, ha⟩ := prss_reads ht
  obtain ⟨bs, hb⟩ := isPrs_reads hv
  refine SeqAt.in_list_reads (xs := tls.map dPrs) (d := dPrs qs) (.list ho hc hd ha) hb (dPrss_can _) (dPrs_can _) (by have := dPrs_depth qs; omega) ?_
  have e : ((tls.map dPrs).any fun y => PyData.eqv y (dPrs qs)) = true := by
    rw [List.any_eq_true]
    exact ⟨dPrs qs, List.mem_map_of_mem hm, by rw [dPrs_eqv]; simp⟩
  rw [e]; exact h

/-- a new object, no longer to be written, laid into the frozen heap -/
theorem St.addF {g : Heap} {L : Addr} {m : Str → Option Value} {own : List (Addr × Obj)} {h : Heap} (S : St g L m own h) {D : Addr} {o : Obj} (hD : h.get? D = some o) (hL : D ≠ L) (ho : ∀ q ∈ own, q.1 ≠ D) :
    ∃ g', Le g g' ∧ St g' L m own h ∧ g'.get? D = some o := by
  refine ⟨Mine.frz h L own, S.frz_le, S.frz, hideAll_get _ hD fun hm => ?_⟩
  rcases List.mem_cons.mp hm with z | z
  · exact hL z
  · obtain ⟨q, hq, e⟩ := List.mem_map.mp z
    exact ho q hq e

/-- the object of an enumerate at its start -/
abbrev eobj (it : Addr) : Obj := { cls := .type "enumerate", dict := none, data := .fields #[.none, .bool false, .ref it, rawInt 0, .none, .none], slots := #[] }
abbrev liobj (l : Addr) : Obj := { cls := .type "list_iterator", data := .fields #[.ref l, .int 0 0] }

/-- a comprehension over an enumerate -/
theorem enumW {w : World} {A : Around} {env : Env} {scope : Scope} {cl : List (Str × Addr)} {xi xv : Str} {pi pv pt : Pos} {x1 : Nat} {elt : Expr} {ifs : List Expr} {s₂ : Shared} {e it l : Addr} {oi : Obj} {items : Array Value} {J : Nat → Heap → List Value → Prop}
    (hh : A.handled = none) (he : s₂.heap.get? e = some (eobj it)) (hit : s₂.heap.get? it = some oi) (hoc : oi.cls = .type "list_iterator") (hod : oi.data = .fields #[.ref l, .int 0 0]) (hne : e ≠ it)
    (hl : (hideAll s₂.heap [e, it]).IsList l items) (hk : scope.kind = .function) (hxi : scope.names.lookup xi = some .local) (hxv : scope.names.lookup xv = some .local)
    (j0 : J 0 (hideAll s₂.heap [e, it]) []) (small : ∀ i g ys, J i g ys → ys.length ≤ 1000) (hxx : xi ≠ xv)
    (turn : ∀ (E : Value → Shared → Prop) C i v tok g₁ m' ys own q h tk, items[i]? = some v → Le (hideAll s₂.heap [e, it]) g₁ → J i g₁ ys → m' xi = some (.int (i : Nat) tok) → m' xv = some v → St g₁ C m' (own ++ q) h →
      wpAny (model PG w) A (testsOf ifs (compEnvC scope cl C env)) (fun ok s₃ => ∃ g₂ h₃ tk₃, s₃ = ⟨h₃, s₂.gens, s₂.drawn, tk₃, s₂.os⟩ ∧ Le g₁ g₂ ∧ St g₂ C m' (own ++ q) h₃ ∧
        if ok = true then wpAny (model PG w) A (eval elt (compEnvC scope cl C env)) (fun y s₄ => ∃ g₃ h₄ tk₄, s₄ = ⟨h₄, s₂.gens, s₂.drawn, tk₄, s₂.os⟩ ∧ Le g₂ g₃ ∧ St g₃ C m' (own ++ q) h₄ ∧ J (i + 1) g₃ (ys ++ [y])) E s₃
        else J (i + 1) g₂ ys) E ⟨h, s₂.gens, s₂.drawn, tk, s₂.os⟩) :
    CompW w A (fun C => compEnvC scope cl C env) (.Tuple [.Name xi pi, .Name xv pv] x1 pt) elt ifs (.ref e) s₂ [(e, eobj it), (it, oi)] items.size J := by
  have hkc : ∀ C, (compEnvC scope cl C env).scope.kind = .function := fun C => hk
  refine ⟨fun q hq => ?_, by simp [hne], j0, small, fun C => rfl, fun C => ⟨_, _, ⟨.none, oi, rfl, hoc, hod⟩, iter_enum hh hl (lookup_relabel_local hxi) (lookup_relabel_local hxv) (by rw [hkc]; rfl), fun i m own m' own' hp => hp.1, ?_⟩, fun s Q E hp hQ => ?_⟩
  · rcases List.mem_cons.mp hq with rfl | hq
    · exact he
    · rw [List.mem_singleton.mp hq]; exact hit
  · rintro E' i g₁ m₁ ys own₁ m' q h₄ tk₄ hi hg₁ hJ ⟨_, v, tok, hv, rfl⟩ S₄
    exact turn E' C i v tok g₁ _ ys own₁ q h₄ tk₄ hv hg₁ hJ (by simp [hxx]) (by simp) S₄
  · exact wpAny_pyIter_enum (hp _ (.head _)) hQ

/-- a comprehension over an enumerate that collects ints: one test, the element a name -/
theorem enumInts {w : World} {A : Around} {env : Env} {scope : Scope} {cl : List (Str × Addr)} {xi xv y : Str} {pi pv pt py : Pos} {x1 : Nat} {c : Expr} {s₂ : Shared} {e it l : Addr} {oi : Obj} {items : Array Value} {G : Heap} (F : Nat → List Int) (p : Nat → Bool) (val : Nat → Int)
    (hh : A.handled = none) (he : s₂.heap.get? e = some (eobj it)) (hit : s₂.heap.get? it = some oi) (hoc : oi.cls = .type "list_iterator") (hod : oi.data = .fields #[.ref l, .int 0 0]) (hne : e ≠ it)
    (hG : Le G (hideAll s₂.heap [e, it])) (hl : G.IsList l items) (hF0 : F 0 = []) (hF1 : ∀ i, i < items.size → F (i + 1) = F i ++ (if p i = true then [val i] else [])) (hsz : items.size ≤ 100)
    (hval : ∀ i v (t : Tok) (m' : Str → Option Value), items[i]? = some v → m' xi = some (.int (i : Nat) t) → m' xv = some v → ∃ t', m' y = some (.int (val i) t'))
    (test : ∀ (E : Value → Shared → Prop) C i v tok g₁ m' own' h' tk, items[i]? = some v → Le (hideAll s₂.heap [e, it]) g₁ → m' xi = some (.int (i : Nat) tok) → m' xv = some v → St g₁ C m' own' h' →
      wpAny (model PG w) A (isTrue c (compEnvC scope cl C env) (eval c (compEnvC scope cl C env))) (fun b s => b = p i ∧ ∃ h'' tk'', s = ⟨h'', s₂.gens, s₂.drawn, tk'', s₂.os⟩ ∧ Le h' h'') E ⟨h', s₂.gens, s₂.drawn, tk, s₂.os⟩)
    (hk : scope.kind = .function := by rfl) (hxi : scope.names.lookup xi = some .local := by rfl) (hxv : scope.names.lookup xv = some .local := by rfl) (hy : scope.names.lookup y = some .local := by rfl) (hxx : xi ≠ xv := by decide) (hyd : (y == ("__debug__" : Str)) = false := by decide) :
    CompW w A (fun C => compEnvC scope cl C env) (.Tuple [.Name xi pi, .Name xv pv] x1 pt) (.Name y py) [c] (.ref e) s₂ [(e, eobj it), (it, oi)] items.size (fun i _ ys => IntsAre ys (F i) ∧ ys.length ≤ i ∧ i ≤ 100) := by
  have hkc : ∀ C, (compEnvC scope cl C env).scope.kind = .function := fun C => hk
  refine enumW hh he hit hoc hod hne (hG.list hl) hk hxi hxv ⟨by rw [hF0]; exact .nil, Nat.zero_le _, by omega⟩ (fun i g ys hJ => by have := hJ.2.1; have := hJ.2.2; omega) hxx ?_
  rintro E' C i v tok g₁ m' ys own q h tk hv hg₁ ⟨hys, hyl, hi100⟩ mi mv S
  have hi : i < items.size := (Array.getElem?_eq_some_iff.mp hv).1
  refine wpAny_tests_one (wpAny_mono (test _ C i v tok g₁ m' _ h tk hv hg₁ mi mv S) (fun b s₃ hb => ?_) fun _ _ x => x)
  obtain ⟨rfl, h₅, tk₅, rfl, hk₅⟩ := hb
  have S₅ := S.keeps hk₅
  refine ⟨g₁, h₅, tk₅, rfl, Le.refl _, S₅, ?_⟩
  have e1 := hF1 i hi
  cases hpi : p i with
  | false =>
    rw [if_neg (by simp)]
    rw [hpi, if_neg (by simp), List.append_nil] at e1
    exact ⟨by rw [e1]; exact hys, by omega, by omega⟩
  | true =>
    rw [if_pos rfl]
    rw [hpi, if_pos rfl] at e1
    obtain ⟨t', ht'⟩ := hval i v tok m' hv mi mv
    refine nm (env := compEnvC scope cl C env) S₅ ht' ⟨g₁, h₅, tk₅, rfl, Le.refl _, S₅, ?_, ?_, by omega⟩ (hkc C) (lookup_relabel_local hy) hyd
    · rw [e1]; exact intsAre_snoc hys _ _
    · rw [List.length_append]; simp; omega
end Mine
end
section
open PySem PySem.W PySem.W.X PySem.Calls PyProof.Rows
set_option maxRecDepth 10000
namespace Mine

abbrev lF : FuncData := fdI 14 (.str "law_mq0175_01" 265) (.ref 93)
abbrev lE (L : Addr) : Env := callEnvC lF L 94
def lwB : List Stmt := match ((dB 14)[3]? : Option Stmt) with | some (.For _ _ b _ _) => b | _ => []
def lwPairs : Expr := match (lwB[3]? : Option Stmt) with | some (.If _ [.Expr (.Call _ [.Call _ [e] _ _] _ _) _] _ _) => e | _ => .Name "x" ⟨0, 0, 0, 0⟩

theorem row_hole {g : Heap} {ra : Addr} {row : Row} {rvs : List Value} (hl : g.IsList ra rvs.toArray) (hp : Paired (TupSI g) rvs row) {x : PI} (hx : x ∈ holesFrom 0 row) : ∃ (j : Nat) (ta : Addr) (u1 u2 : Tok), x.2 = (j : Int) ∧ j < row.length ∧ rvs[j]? = some (.ref ta) ∧ IsTup g ta [.str qS u1, .int x.1 u2].toArray := by
  obtain ⟨j, h1, h2⟩ := holesFrom_mem row 0 x hx
  obtain ⟨v, hv, ta, u1, u2, rfl, ht⟩ := paired_get' hp h2
  exact ⟨j, ta, u1, u2, by rw [h1]; congr 1; omega, (List.getElem?_eq_some_iff.mp h2).1, hv, ht⟩

theorem ints_at {vs : List Value} {ns : List Int} (hi : IntsAre vs ns) : ∀ (i : Nat) v, vs[i]? = some v → ∃ k t, v = .int k t ∧ ns[i]? = some k := by
  induction hi with
  | nil => intro i v h; simp at h
  | cons n t r ih =>
    intro i v h
    cases i with
    | zero => simp at h; exact ⟨n, t, h.symm, rfl⟩
    | succ i => obtain ⟨k, t', e, h'⟩ := ih i v (by simpa using h); exact ⟨k, t', e, by simpa using h'⟩

set_option maxHeartbeats 4000000 in
theorem pairs_comp {w : World} {A : Around} {E : Value → Shared → Prop} {L : Addr} {g : Heap} {m : Str → Option Value} {own : List (Addr × Obj)} {h : Heap} {gens : Array GenState} {d : Drawn} {tk : Nat} {os : OsState} {ra oa : Addr} {ocr : Obj} {row : Row} {Lp : List PI} {Q : Value → Shared → Prop}
    (hh : A.handled = none) (S : St g L m own h) (hcr : h.get? (L + 1) = some ocr) (hcv : CellIs ocr (some (.ref ra))) (hr : IsRow g ra row) (hlen : row.length ≤ 100) (mo : m "opened" = some (.ref oa)) (ho : IsInts g oa (Lp.map (·.2))) (hLp : ∀ x ∈ Lp, x ∈ holesFrom 0 row) (hL5 : Lp.length ≤ 100)
    (hQ : ∀ D h' tk ys k, h'.get? D = some (lobj (List.toArray ys) k) → Paired (IsPr h') ys Lp → Le h h' → Q (.ref D) ⟨h', gens, d, tk, os⟩) :
    wpAny (model PG w) A (eval lwPairs (lE L)) Q E ⟨h, gens, d, tk, os⟩ := by
  obtain ⟨ovs, hol, hovs⟩ := ho
  obtain ⟨rvs, hrl, hrvs⟩ := hr
  have hovl : ovs.length = Lp.length := by rw [intsAre_len hovs, List.length_map]
  refine comp_eval (cl := [("row", L + 1)]) rfl ?_
  refine nm S mo (wpAny_pyIter_list (s := ⟨h, _, _, _, _⟩) (l := oa) (items := ovs.toArray) (Le.list S.keep hol) ?_)
  dsimp only
  have hI : (h.push (liobj oa)).get? h.objs.size = some (liobj oa) := Heap.get?_push_size _ rfl
  have hold : Le h (hideAll (h.push (liobj oa)) [h.objs.size]) := fun b o e => hideAll_get _ (Heap.get?_push_of_some _ e) fun hm => by
    rw [List.mem_singleton] at hm
    exact absurd (Heap.lt_size e) (by rw [hm]; exact Nat.lt_irrefl _)
  generalize h.objs.size = I at hI hold ⊢
  generalize h.push (liobj oa) = h₂ at hI hold ⊢
  refine ⟨[(I, liobj oa)], ovs.toArray.size, fun i g ys => Paired (IsPr g) ys (Lp.take i) ∧ i ≤ ovs.length, ?_, ?_⟩
  · refine ⟨fun q hq => by rw [List.mem_singleton.mp hq]; exact hI, by simp, ⟨.nil, Nat.zero_le _⟩, fun i g ys hJ => ?small, fun C => rfl, fun C => ⟨_, _, ⟨_, rfl, rfl, rfl⟩, iter_name (Src.list (l := oa) hh (Le.list (S.le.trans hold) hol)), fun i m own m' own' hp => hp.1, ?turn⟩, ?self⟩
    case small =>
      have h1 := paired_length hJ.1
      rw [List.length_take] at h1
      omega
    case turn =>
      rintro E' i g₁ m₁ ys own₁ m' q h₄ tk₄ hi hg₁ ⟨hys, hiN⟩ ⟨_, v, hv, rfl⟩ S₄
      have hv' : ovs[i]? = some v := by simpa using hv
      obtain ⟨k, t, rfl, hk⟩ := ints_at hovs i v hv'
      have hi' : i < Lp.length := by have := (List.getElem?_eq_some_iff.mp hv').1; omega
      obtain ⟨x, hx⟩ : ∃ x, Lp[i]? = some x := ⟨Lp[i], List.getElem?_eq_getElem hi'⟩
      rw [List.getElem?_map, hx] at hk
      have hxk : x.2 = k := by simpa using hk
      obtain ⟨j, ta, u1, u2, hj, hjl, hrj, htup⟩ := row_hole hrl hrvs (hLp x (List.mem_of_getElem? hx))
      have hgg : Le g g₁ := (S.le.trans hold).trans hg₁
      refine wpAny_tests_nil ⟨g₁, h₄, tk₄, rfl, Le.refl _, S₄, ?_⟩
      rw [if_pos rfl]
      subst hxk
      rw [hj]
      rw [hj] at S₄
      refine wpAny_Tuple (wpAny_items_cons (Subscript_ (Subscript_ (nmC (S₄.keep _ _ (hg₁ _ _ (hold _ _ hcr))) hcv (nm S₄ rfl (item_list ((hgg.trans S₄.keep).list hrl) (by omega) (by omega) (x := .ref ta) (by rw [Int.toNat_natCast]; simpa using hrj) (wpAny_Constant_int (item_tupleT ((htup.keeps hgg).keeps S₄.keep) (by decide) (by decide) rfl rfl (wpAny_items_cons (nm S₄ rfl (wpAny_items_nil ⟨by show 2 ≤ _; rw [sizeLine_eq]; omega, ?_⟩)))))))))))
      dsimp only
      have S₅ := S₄.push { cls := .type "tuple", data := .seq [Value.int x.1 u2, Value.int (j : Nat) t].toArray }
      have S₆ := (St.dropL (own := [_]) (rest := own₁ ++ q) S₅).frz
      have hgf := (St.dropL (own := [_]) (rest := own₁ ++ q) S₅).frz_le
      have hta := St.frz_at (own := [_]) (rest := own₁ ++ q) S₅ (.head _)
      refine ⟨_, _, _, rfl, hgf, S₆, ?_, by omega⟩
      rw [take_snoc hx]
      exact paired_snoc (paired_mono (fun _ _ => hgf.isPr) hys) ⟨_, u2, t, rfl, _, hta, rfl, _, by rw [hj]⟩
    case self =>
      intro s Q' E' hp hQ'
      exact wpAny_pyIter_listiter ⟨_, hp _ (.head _), rfl, rfl⟩ hQ'
  · intro D h' tk' g₁ ys k hD hl' hg₁ hgD hle hJ
    refine hQ D h' tk' ys k hl' ?_ ((hold.trans hg₁).trans hle)
    have := hJ.1
    rw [List.size_toArray, hovl, List.take_length] at this
    exact paired_mono (fun _ _ => hle.isPr) this
end Mine
end
section
open PySem PySem.W PySem.W.X PySem.Calls PyProof.Rows
set_option maxRecDepth 10000
namespace Mine

theorem Fine.of {A : Around} {n k : Nat} (F : Fine A k) (h : n ≤ k) : Fine A n := ⟨F.handled, by have := F.depth; omega, by have := F.units; omega⟩

/-- the word k fills well -/
abbrev feas (row : Row) (k : Nat) : Prop := lev 0 (shownFrom ((pick k 0 (holesFrom 0 row)).map (·.2)) 0 row) = some 0
def Good (row : Row) (k : Nat) (qs : List PI) : Prop := feas row k ∧ qs.Perm (pick k 0 (holesFrom 0 row)) ∧ qs.Pairwise fun x y => ltP x y = true

def GExt (a b : Array GenState) : Prop := ∃ more : List GenState, b = a ++ more.toArray ∧ ∀ x ∈ more, x.bare = true
theorem GExt.refl (a : Array GenState) : GExt a a := ⟨[], by simp, fun _ h => nomatch h⟩
theorem GExt.trans {a b c : Array GenState} (x : GExt a b) (y : GExt b c) : GExt a c := by
  obtain ⟨m1, e1, b1⟩ := x
  obtain ⟨m2, e2, b2⟩ := y
  refine ⟨m1 ++ m2, by rw [e2, e1]; simp, fun z hz => ?_⟩
  rcases List.mem_append.mp hz with h | h
  · exact b1 z h
  · exact b2 z h

def NotTup (o : Obj) : Prop := ∀ vs n, ¬ (o.cls = .type "tuple" ∧ o.data = .seq vs n)
theorem IsPr.frz {g : Heap} {L : Addr} {m : Str → Option Value} {own : List (Addr × Obj)} {h : Heap} (S : St g L m own h) (hn : ∀ q ∈ own, NotTup q.2) {v : Value} {p : PI} (x : IsPr h v p) : IsPr (Mine.frz h L own) v p := by
  obtain ⟨t, u1, u2, e, o, ho, hc, n, hd⟩ := x
  refine ⟨t, u1, u2, e, o, hideAll_get _ ho fun hm => ?_, hc, n, hd⟩
  rcases List.mem_cons.mp hm with z | z
  · obtain ⟨o', es, ep, ho', hd', _⟩ := S.ns
    rw [z, ho'] at ho
    cases ho
    rw [hd'] at hd; cases hd
  · obtain ⟨q, hq, z'⟩ := List.mem_map.mp z
    have := (S.obj q hq).1
    have z'' : q.1 = t := z'
    rw [z'', ho] at this
    cases this
    exact hn q hq _ _ ⟨hc, hd⟩

theorem pc_len {y : Str} (h : Pc y) : y.length ≤ 8 := by
  rcases h with rfl | h
  · decide
  · have : ∀ v ∈ Alph, v.length ≤ 8 := by decide
    have h2 := this _ h
    have : y.length = (tl y).length := by simp [Str.length, tl]
    omega

/-- what the loop over the words keeps -/
structure LJ (row : Row) (N : Nat) (L lt hla : Addr) (ocr oco : Obj) (g : Heap) (m : Str → Option Value) (own : List (Addr × Obj)) : Prop where
  objs : ∃ tvs tls n, own = [(L + 1, ocr), (L + 3, oco), (lt, lobj (List.toArray tvs) n)] ∧ Paired (IsPrs g) tvs tls ∧ (∀ qs ∈ tls, ∃ k, Good row k qs) ∧ (∀ k, k < N → feas row k → ∃ qs ∈ tls, Good row k qs) ∧ tls.length ≤ N
  mt : m "taken" = some (.ref lt)
  mh : m "holes" = some (.ref hla)

theorem bit_eq (N i : Nat) : ((N : Int).fdiv ((2 ^ i : Nat) : Int)).fmod 2 = ((N / 2 ^ i % 2 : Nat) : Int) := by
  rw [Int.fdiv_eq_ediv_of_nonneg _ (Int.natCast_nonneg _), Int.fmod_eq_emod_of_nonneg _ (by decide)]
  norm_cast

set_option maxHeartbeats 8000000 in
theorem law_turn {w : World} {mg mb : Str → Option Value} {A : Around} {E : Value → Shared → Prop} {g : Heap} {L : Addr} {m : Str → Option Value} {own : List (Addr × Obj)} {h : Heap} {gens : Array GenState} {d : Drawn} {tk : Nat} {os : OsState} {row : Row} {N : Nat} {lt hla ra I : Addr} {ocr oco ocw oI : Obj} {tw : Tok}
    (B : Bas w mg mb g) (F : Fine A 16) (S : St g L m (own ++ [(I, oI), (L + 2, ocw)]) h) (J : LJ row N L lt hla ocr oco g m own) (hcr : CellIs ocr (some (.ref ra))) (hcw : CellIs ocw (some (.int (N : Nat) tw))) (hn : NotTup oI) (hno : ∃ v, CellIs oco v) (hr : IsRow g ra row) (hlen : row.length ≤ 9) (hpc : ∀ p ∈ row, Pc p.1) (h5 : (holesFrom 0 row).length ≤ 5) (hh : IsInts g hla ((holesFrom 0 row).map (·.2))) (hN : N < 32) :
    wpAny (model PG w) A (execs lwB (lE L)) (fun f s₂ => match f with
        | .next | .cont => ∃ g' m'' own'' h' tk' gens', s₂ = ⟨h', gens', d, tk', os⟩ ∧ Le g g' ∧ St g' L m'' (own'' ++ [(I, oI), (L + 2, ocw)]) h' ∧ LJ row (N + 1) L lt hla ocr oco g' m'' own'' ∧ GExt gens gens'
        | .brk => False
        | .ret _ => False) E ⟨h, gens, d, tk, os⟩ := by
  obtain ⟨tvs, tls, n, rfl, htp, hgood, hall, htl⟩ := J.objs
  obtain ⟨hvs, hhl, hhvs⟩ := hh
  have hhvl : hvs.length = (holesFrom 0 row).length := by rw [intsAre_len hhvs, List.length_map]
  refine wpAny_execs_cons (comp_assign (cl := [("word", L + 2)]) rfl ?_)
  refine wpAny_Call_NameR (bn B S rfl boot_enumerate (callWith_type1 (wpAny_items_cons (nm S J.mh (wpAny_items_nil ?_)))))
  refine call_enumerate_list (s := ⟨h, _, _, _, _⟩) (Le.list S.keep hhl) fun h₃ he hit hz hk => ?_
  dsimp only at he hit hz hk ⊢
  refine wpAny_pyIter_enum (s := ⟨h₃, _, _, _, _⟩) he ?_
  obtain ⟨oi, hoi, hoc, hod⟩ := hit
  have S₃ := S.grows (new := [(h.objs.size + 1, eobj h.objs.size), (h.objs.size, oi)]) hk
    (fun p hp => by
      rcases List.mem_cons.mp hp with rfl | hp
      · exact ⟨he, Nat.le_succ _⟩
      · rcases List.mem_singleton.mp hp with rfl
        exact ⟨hoi, Nat.le_refl _⟩)
    (by simp)
  have hcw₃ : (hideAll h₃ [h.objs.size + 1, h.objs.size]).get? (L + 2) = some ocw := S₃.hid (q := (L + 2, ocw)) (by simp)
  refine ⟨[(h.objs.size + 1, eobj h.objs.size), (h.objs.size, oi)], hvs.toArray.size, _, g, m, _,
    enumInts (G := g) (fun i => pick N 0 (((holesFrom 0 row).map (·.2)).take i)) (fun i => decide (N / 2 ^ i % 2 = 1)) (fun i => ((holesFrom 0 row).map (·.2)).getD i 0) F.handled he hoi hoc hod (Nat.succ_ne_self _) S₃.hidG hhl rfl ?hF1 (by rw [List.size_toArray]; omega) ?hval ?test, S₃, ?rest⟩
  case hF1 =>
    intro i hi
    rw [List.size_toArray, hhvl] at hi
    have hget : ((holesFrom 0 row).map (·.2))[i]? = some (((holesFrom 0 row).map (·.2)).getD i 0) := by
      rw [List.getD_eq_getElem?_getD, List.getElem?_eq_getElem (by rw [List.length_map]; exact hi)]; rfl
    rw [take_snoc hget, pick_snoc, take_len hget, Nat.zero_add]
    by_cases hb : N / 2 ^ i % 2 = 1
    · rw [if_pos hb, if_pos (decide_eq_true hb)]
    · rw [if_neg hb, if_neg (by rw [decide_eq_true_eq]; exact hb)]
  case hval =>
    intro i v t m' hv mi mv
    obtain ⟨k, t', rfl, hk'⟩ := ints_at hhvs i v (by simpa using hv)
    exact ⟨t', by rw [mv, List.getD_eq_getElem?_getD, hk']; rfl⟩
  case test =>
    intro E' C i v tok g₁ m' own' h' tk' hv hg₁ mi mv S'
    have hi : i < 5 := by
      have := (Array.getElem?_eq_some_iff.mp hv).1
      rw [List.size_toArray] at this; omega
    have hp2 : (2 : Nat) ^ i ≤ 2 ^ 5 := Nat.pow_le_pow_right (by decide) (by omega)
    have hp1 := Nat.two_pow_pos i
    refine wpAny_isTrue_Compare1 (wpAny_BinOp (wpAny_BinOp (nmC (S'.keep _ _ (hg₁ _ _ hcw₃)) hcw (wpAny_BinOp (wpAny_Constant_int (nm S' mi (pow2 (by omega) fun t' k' => ?_)))))))
    refine floordiv_int (by omega) (wpAny_Constant_int (mod_int (by decide) (wpAny_Constant_int (eq_int (wpAny_truthy_bool ⟨?_, h', _, rfl, Le.refl _⟩))))) (.inl (PyProof.noPylong_small (by rw [Int.natAbs_natCast]; omega)))
    rw [bit_eq, Bool.eq_iff_iff, beq_iff_eq, decide_eq_true_eq]
    omega
  case rest =>
    intro D h' tk' g₁ ys k hD hgD hDL hDo S' _ hJ'
    obtain ⟨hys, _, _⟩ := hJ'
    obtain ⟨g', hgg', S'', hDg⟩ := S'.addF hD hDL hDo
    rw [List.size_toArray, hhvl, ← List.length_map (f := fun x : PI => x.2), List.take_length, pick_map] at hys
    have hopen : IsInts g' D ((pick N 0 (holesFrom 0 row)).map (·.2)) := ⟨ys, ⟨_, hDg, rfl, _, rfl⟩, hys⟩
    have hsub : ∀ x ∈ pick N 0 (holesFrom 0 row), x ∈ holesFrom 0 row := fun x hx => (pick_sub N _ 0).subset hx
    have hfil : Fil row ((pick N 0 (holesFrom 0 row)).map (·.2)) := fil_sub hsub
    have hck : checked (textFrom ((pick N 0 (holesFrom 0 row)).map (·.2)) 0 row) = decide (feas row N) := check_text hpc hfil
    have hpl : ∀ p ∈ row, p.1.length ≤ 8 := fun p hp => pc_len (hpc p hp)
    have B' := B.keeps hgg'
    have hr' : IsRow g' ra row := Le.row hgg' hr
    have htp' : Paired (IsPrs g') tvs tls := paired_mono (fun _ _ => hgg'.isPrs) htp
    clear S S₃ S' hcw₃ he hoi hz hk hoc hod hD hDo
    refine wpAny_execs_cons (wpAny_Assign_Name (wpAny_Call_NameR (gn (v := .ref 35) B' S'' rfl (callWith_def (o := { cls := .type "function", data := .func (fdI 3 (.str "cpy313.email.utils" 187) (.ref 34)) }) (fd := fdI 3 (.str "cpy313.email.utils" 187) (.ref 34)) (f := 35) rfl (wpAny_items_cons (wpAny_Call_NameR (gn (v := .ref 75) B' S'' rfl (callWith_def (o := _) (fd := fdI 11 (.str "law_mq0175_01" 265) (.ref 74)) (f := 75) rfl (wpAny_items_cons (nmC (S''.at 0 rfl) hcr (wpAny_items_cons (nm S'' rfl (wpAny_items_nil ⟨(B'.keeps S''.keep).X 75 _ rfl, wpAny_call ?_⟩)))))))))))))
    refine text_spec (B'.keeps S''.keep) (F.of (by omega)) (Le.row S''.keep hr') (Le.ints S''.keep hopen) (by omega) hpl fun s' t' hx => ?_
    obtain ⟨h₂, gens₂, d₂, tk₂, os₂⟩ := s'
    obtain ⟨k₂, e₂, ed₂, hge₂⟩ := hx
    dsimp only at k₂ e₂ ed₂ hge₂
    subst e₂ ed₂
    have S₂ := S''.keeps k₂
    refine wpAny_items_nil ⟨(B'.keeps S₂.keep).X 35 _ rfl, wpAny_call ?_⟩
    refine check_spec (B'.keeps S₂.keep) (F.of (by omega)) (Nat.le_trans (textFrom_length hpl) (by omega)) fun s' hx => ?_
    obtain ⟨h₃', gens₃, d₃, tk₃, os₃⟩ := s'
    obtain ⟨k₃, e₃, ed₃, hge₃⟩ := hx
    dsimp only at k₃ e₃ ed₃ hge₃
    subst e₃ ed₃
    have hgx : GExt gens gens₃ := GExt.trans hge₂ hge₃
    have S₃ := S₂.keeps k₃
    refine sn S₃ fun h₄ S₄ => ?_
    dsimp only at S₄ ⊢
    rw [hck] at S₄
    clear S₂ S₃ k₂ k₃ hge₂ hge₃ S''
    refine wpAny_execs_cons (wpAny_If (wpAny_isTrue_BoolOp (wpAny_allTrue_Or_cons (wpAny_isTrue_Not (wpAny_isTrue_value (wpAny_Call_NameR (bn B' S₄ rfl boot_isinstance (callWith_method1 (wpAny_items_cons (nm S₄ rfl (wpAny_items_cons (bn B' S₄ rfl PyProof.Rows.boot_bool (wpAny_items_nil (IsiPair.bool_bool (wpAny_truthy_bool ?_)))))))))))))))
    rw [if_neg (by simp)]
    refine wpAny_allTrue_Or_cons (wpAny_isTrue_Compare1 (nm S₄ rfl (wpAny_Call_NameR (gn (v := .ref 82) B' S₄ rfl (callWith_def (o := _) (fd := fdI 12 (.str "law_mq0175_01" 265) (.ref 81)) (f := 82) rfl (wpAny_items_cons (nmC (S₄.at 0 rfl) hcr (wpAny_items_cons (nm S₄ rfl (wpAny_items_nil ⟨(B'.keeps S₄.keep).X 82 _ rfl, wpAny_call ?_⟩))))))))))
    refine strikes_spec (B'.keeps S₄.keep) (F.of (by omega)) (Le.row S₄.keep hr') (Le.ints S₄.keep hopen) (by omega) fun s' hx => ?_
    obtain ⟨h₅, gens₅, d₅, tk₅, os₅⟩ := s'
    obtain ⟨k₅, e₅, ed₅, hge₅⟩ := hx
    dsimp only at k₅ e₅ ed₅ hge₅
    subst e₅ ed₅
    have hgx : GExt gens gens₅ := hgx.trans hge₅
    have S₅ := S₄.keeps k₅
    refine ne_bool (wpAny_truthy_bool ?_)
    rw [if_neg (by unfold feas; simp)]
    refine wpAny_allTrue_Or_nil ?_
    rw [if_neg (by simp)]
    refine wpAny_execs_nil (wpAny_execs_cons (wpAny_If (wpAny_isTrue_value (nm S₅ rfl (wpAny_truthy_bool ?_)))))
    by_cases hf : feas row N
    · rw [if_pos (decide_eq_true hf)]
      refine wpAny_execs_cons (app_stmt S₅ J.mt (S₅.at 2 rfl) (wpAny_Call_NameR (bn B' S₅ rfl boot_sorted (PySem.callWith_builtin1 ?_))))
      refine pairs_comp F.handled S₅ (S₅.at 0 rfl) hcr hr' (by omega) rfl hopen hsub (by have := (pick_sub N (holesFrom 0 row) 0).length_le; omega) fun D2 h₆ tk₆ ys2 k2 hD2 hp2 hle6 => ?_
      refine sorted_pairs ⟨_, hD2, rfl, _, rfl⟩ hp2 ((pick_sub N _ 0).nodup (holesFrom_nodup row 0)) (by have := (pick_sub N (holesFrom 0 row) 0).length_le; omega) fun h₇ D3 vs' ps' n' hle7 hD3 hD3' hps' hperm hpw => ?_
      dsimp only at hle7 hD3 hD3' hps' ⊢
      have S₆ : St g' L _ _ _ := S₅.keeps hle6
      have S₇ : St g' L _ _ _ := S₆.keeps hle7
      have hnt : ∀ q ∈ [(L + 1, ocr), (L + 3, oco), (lt, lobj (List.toArray tvs) n)] ++ [(I, oI), (L + 2, ocw)], NotTup q.2 := by
        intro q hq
        simp only [List.cons_append, List.nil_append, List.mem_cons, List.not_mem_nil, or_false] at hq
        rcases hq with rfl | rfl | rfl | rfl | rfl
        · intro vs n hx; have := hcr; unfold CellIs at this; rw [this] at hx; cases hx.2
        · obtain ⟨v, hv⟩ := hno
          intro vs n hx; unfold CellIs at hv; rw [hv] at hx; cases hx.2
        · intro vs n hx; exact absurd hx.1 (by simp)
        · exact hn
        · intro vs n hx; have := hcw; unfold CellIs at this; rw [this] at hx; cases hx.2
      have hg3 : Le g' (Mine.frz h₇ L _) := S₇.frz_le
      have S₈ := S₇.frz
      have hD3g : (Mine.frz h₇ L ([(L + 1, ocr), (L + 3, oco), (lt, lobj (List.toArray tvs) n)] ++ [(I, oI), (L + 2, ocw)])).get? D3 = some (lobj vs'.toArray n') := by
        refine hideAll_get _ hD3' fun hm => ?_
        rcases List.mem_cons.mp hm with z | z
        · exact absurd S₆.ns.lt (by rw [← z]; exact Nat.not_lt.mpr hD3)
        · obtain ⟨q, hq, e⟩ := List.mem_map.mp z
          exact absurd (Heap.lt_size (S₆.obj q hq).1) (by rw [show q.1 = D3 from e]; exact Nat.not_lt.mpr hD3)
      have hpsg : Paired (IsPr (Mine.frz h₇ L ([(L + 1, ocr), (L + 3, oco), (lt, lobj (List.toArray tvs) n)] ++ [(I, oI), (L + 2, ocw)]))) vs' ps' := paired_mono (fun _ _ x => IsPr.frz S₇ hnt x) hps'
      generalize Mine.frz h₇ L ([(L + 1, ocr), (L + 3, oco), (lt, lobj (List.toArray tvs) n)] ++ [(I, oI), (L + 2, ocw)]) = g₈ at *
      have htvl := paired_length htp
      refine ⟨tvs.toArray, ⟨n, S₈.at 2 rfl⟩, by rw [List.size_toArray, sizeLine_eq]; omega, fun h₉ n₉ hn₉ hs₉ => ?_⟩
      rw [show tvs.toArray.push (Value.ref D3) = (tvs ++ [Value.ref D3]).toArray by simp] at hn₉
      have S₉ := S₈.upd 2 rfl hs₉ hn₉
      have hG : Good row N ps' := ⟨hf, hperm, hpw⟩
      refine wpAny_execs_nil (wpAny_execs_nil ⟨g₈, _, [(L + 1, ocr), (L + 3, oco), (lt, lobj (tvs ++ [Value.ref D3]).toArray n₉)], h₉, _, _, rfl, hgg'.trans hg3, S₉, ⟨⟨tvs ++ [.ref D3], tls ++ [ps'], n₉, rfl, paired_snoc (paired_mono (fun _ _ => hg3.isPrs) htp') ⟨D3, vs', rfl, ⟨_, hD3g, rfl, _, rfl⟩, hpsg⟩, ?_, ?_, ?_⟩, J.mt, J.mh⟩, hgx⟩)
      · intro qs hqs
        rcases List.mem_append.mp hqs with hqs | hqs
        · exact hgood qs hqs
        · rw [List.mem_singleton.mp hqs]; exact ⟨N, hG⟩
      · intro k hk hfk
        rcases Nat.lt_or_ge k N with h1 | h1
        · obtain ⟨qs, h2, h3⟩ := hall k h1 hfk
          exact ⟨qs, List.mem_append_left _ h2, h3⟩
        · have : k = N := by omega
          subst this
          exact ⟨ps', List.mem_append_right _ (.head _), hG⟩
      · rw [List.length_append]; simp; omega
    · rw [if_neg (by rw [decide_eq_true_eq]; exact hf)]
      refine wpAny_execs_nil (wpAny_execs_nil ⟨g', _, _, h₅, _, _, rfl, hgg', S₅, ⟨⟨tvs, tls, n, rfl, htp', hgood, ?_, by omega⟩, J.mt, J.mh⟩, hgx⟩)
      intro k hk hfk
      rcases Nat.lt_or_ge k N with h1 | h1
      · exact hall k h1 hfk
      · have : k = N := by omega
        subst this
        exact absurd hfk hf
end Mine
end
section
open PySem PySem.W PySem.W.X PySem.Calls PyProof.Rows
set_option maxRecDepth 10000
namespace Mine

theorem intsAre_nil {ys : List Value} (h : IntsAre ys []) : ys = [] := by cases h; rfl

set_option maxHeartbeats 4000000 in
theorem law_others {w : World} {mg mb : Str → Option Value} {A : Around} {E : Value → Shared → Prop} {g : Heap} {L : Addr} {m : Str → Option Value} {h : Heap} {gens : Array GenState} {d : Drawn} {tk : Nat} {os : OsState} {lt D : Addr} {oco : Obj} {v0 : Option Value} {tvs lvs : List Value} {tls : List (List PI)} {ps : List PI} {Q : Flow → Shared → Prop}
    (B : Bas w mg mb g) (F : Fine A 16) (S : St g L m [(L + 3, oco)] h) (hco : CellIs oco v0) (mt : m "taken" = some (.ref lt)) (ml : m "least" = some (.ref D)) (hlt : g.IsList lt tvs.toArray) (htp : Paired (IsPrs g) tvs tls) (hD : g.IsList D lvs.toArray) (hps : Paired (IsPr g) lvs ps) (hlen : lvs.length ≤ 50)
    (hcmp : ∀ qs ∈ tls, ps.length = qs.length ∧ ∀ (k : Nat) p q, ps[k]? = some p → qs[k]? = some q → ltP q p = false) (hmem : ps ∈ tls) (hQ : ∀ h' tk', Le g h' → Q (.ret (.bool true)) ⟨h', gens, d, tk', os⟩) :
    wpAny (model PG w) A (execs ((dB 14).drop 6) (lE L)) Q E ⟨h, gens, d, tk, os⟩ := by
  refine wpAny_execs_cons (wpAny_For (nm S mt (wpAny_pyIter_list (s := ⟨h, _, _, _, _⟩) (Le.list S.keep hlt) ?_)))
  dsimp only
  have S₁ := S.push (liobj lt)
  generalize h.objs.size = I at S₁ ⊢
  generalize h.push (liobj lt) = h₁ at S₁ ⊢
  refine forIterP (iter_cell (c := L + 3) (Src.list (l := lt) F.handled hlt)) (fun i g' m' own gens' => own = [] ∧ gens' = gens ∧ m' "least" = some (.ref D) ∧ m' "taken" = some (.ref lt)) (own := []) (Le.refl _) ⟨_, _, _, rfl, ⟨rfl, rfl⟩, hco, fun j hj => absurd hj (by omega)⟩ S₁ ⟨rfl, rfl, ml, mt⟩ ?_ ?_
  · rintro E' i g₁ m₁ own m' own' p h₂ tk₂ gens₂ hi hg₁ ⟨rfl, rfl, ml, mt⟩ ⟨rfl, rfl⟩ ⟨oi, oc, vc, rfl, hoi, hoc, hcell⟩ S₂
    obtain ⟨vo, rfl, hvo⟩ := hcell i rfl
    have hvo' : tvs[i]? = some vo := by simpa using hvo
    obtain ⟨qs, hqs, Dq, qvs, rfl, hDq, hqp⟩ := paired_get htp hvo'
    obtain ⟨hql, hqc⟩ := hcmp qs (List.mem_of_getElem? hqs)
    have B₁ := B.keeps hg₁
    refine wpAny_execs_cons (wpAny_If (wpAny_isTrue_Compare1 (comp_eval (cl := [("other", L + 3)]) rfl ?_)))
    refine wpAny_Call_NameR (bn B₁ S₂ rfl boot_enumerate (callWith_type1 (wpAny_items_cons (nm S₂ ml (wpAny_items_nil ?_)))))
    refine call_enumerate_list (s := ⟨h₂, _, _, _, _⟩) (Le.list (hg₁.trans S₂.keep) hD) fun h₃ he hit hz hk => ?_
    dsimp only at he hit hz hk ⊢
    refine wpAny_pyIter_enum (s := ⟨h₃, _, _, _, _⟩) he ?_
    obtain ⟨oi2, hoi2, hoc2, hod2⟩ := hit
    have hold : Le h₂ (hideAll h₃ [h₂.objs.size + 1, h₂.objs.size]) := fun b o e => hideAll_get _ (hk _ _ e) fun hm => by
      have hb := Heap.lt_size e
      rcases List.mem_cons.mp hm with z | z
      · rw [z] at hb; exact absurd (Nat.lt_of_succ_lt hb) (Nat.lt_irrefl _)
      · rw [List.mem_singleton.mp z] at hb; exact absurd hb (Nat.lt_irrefl _)
    have hcell₂ : h₂.get? (L + 3) = some oc := S₂.at 1 rfl
    have hG : Le g (hideAll h₃ [h₂.objs.size + 1, h₂.objs.size]) := (hg₁.trans S₂.keep).trans hold
    refine ⟨[(h₂.objs.size + 1, eobj h₂.objs.size), (h₂.objs.size, oi2)], lvs.toArray.size, _,
      enumInts (G := g) (fun _ => []) (fun _ => false) (fun i => (i : Int)) F.handled he hoi2 hoc2 hod2 (Nat.succ_ne_self _) hG hD rfl (fun i hi => by simp) (by rw [List.size_toArray]; omega) (fun i v t m' hv mi mv => ⟨t, mi⟩) ?test, ?rest⟩
    case test =>
      intro E'' C k v tok g₄ m' own' h' tk' hv hg₄ mi mv S'
      have hv' : lvs[k]? = some v := by simpa using hv
      obtain ⟨pp, hpp, hvp⟩ := paired_get hps hv'
      have hkl : k < qs.length := by rw [← hql]; exact (List.getElem?_eq_some_iff.mp hpp).1
      obtain ⟨u, hu, hup⟩ := paired_get' hqp (List.getElem?_eq_getElem hkl)
      have hle : Le g h' := (hG.trans hg₄).trans S'.keep
      have hkl2 : k < 2 ^ 63 := by
        have := (List.getElem?_eq_some_iff.mp hv').1; omega
      refine wpAny_isTrue_Compare1 (Subscript_ (nmC (S'.keep _ _ (hg₄ _ _ (hold _ _ hcell₂))) hoc (nm S' mi (item_list (hle.list hDq) (by omega) (by omega) (x := u) (by rw [Int.toNat_natCast]; simpa using hu) (nm S' mv (lt_pr (hle.isPr hup) (hle.isPr hvp) (by have := F.units; omega) (wpAny_truthy_bool ⟨?_, h', _, rfl, Le.refl _⟩)))))))
      exact hqc k pp _ hpp (List.getElem?_eq_getElem hkl)
    case rest =>
      intro D2 h' tk' g₄ ys kk hD2 hl' hg₄ hgD2 hle hJ
      obtain ⟨hys, _, _⟩ := hJ
      have hy0 := intsAre_nil hys
      subst hy0
      have hle2 : Le h₂ h' := (hold.trans hg₄).trans hle
      have S₃ := S₂.keeps hle2
      refine wpAny_List (wpAny_items_nil ⟨by decide, ?_⟩)
      refine ne_nil (vs := []) ⟨_, Heap.get?_push_of_some _ hl', rfl, _, rfl⟩ ⟨_, Heap.get?_push_size _ rfl, rfl, _, rfl⟩ (by have := F.units; omega) (wpAny_truthy_bool ?_)
      rw [if_neg (by simp)]
      refine wpAny_execs_nil (wpAny_execs_nil ⟨g₁, _, [], _, _, _, rfl, Le.refl _, S₃.keeps (fun b o e => Heap.get?_push_of_some _ e), rfl, rfl, ml, mt⟩)
  · rintro g₁ m₁ own h₂ tk₂ gens₂ hg₁ ⟨rfl, rfl, ml, mt⟩ S₂
    have hle : Le g h₂ := hg₁.trans S₂.keep
    refine wpAny_execs_cons (wpAny_Return_some (wpAny_Compare1 (nm S₂ ml (nm S₂ mt (in_taken (hle.list hlt) (paired_mono (fun _ _ => hle.isPrs) htp) (hle.isPrs ⟨D, lvs, rfl, hD, hps⟩) (by have := F.units; omega) hmem ?_)))))
    exact hQ _ _ hle
end Mine
end
section
open PySem PySem.W PySem.W.X PySem.Calls PyProof.Rows
set_option maxRecDepth 10000
namespace Mine

def NotSeq (o : Obj) : Prop := ∀ vs n, o.data ≠ .seq vs n
theorem frz_seq {g : Heap} {L : Addr} {m : Str → Option Value} {own : List (Addr × Obj)} {h : Heap} (S : St g L m own h) (hn : ∀ q ∈ own, NotSeq q.2) {a : Addr} {o : Obj} {vs : Array Value} {n : Nat} (ho : h.get? a = some o) (hd : o.data = .seq vs n) : (Mine.frz h L own).get? a = some o := by
  refine hideAll_get _ ho fun hm => ?_
  rcases List.mem_cons.mp hm with z | z
  · obtain ⟨o', es, ep, ho', hd', _⟩ := S.ns
    rw [z, ho'] at ho
    cases ho
    rw [hd'] at hd; cases hd
  · obtain ⟨q, hq, z'⟩ := List.mem_map.mp z
    have := (S.obj q hq).1
    have z'' : q.1 = a := z'
    rw [z'', ho] at this
    cases this
    exact hn q hq _ _ hd
theorem frz_list {g : Heap} {L : Addr} {m : Str → Option Value} {own : List (Addr × Obj)} {h : Heap} (S : St g L m own h) (hn : ∀ q ∈ own, NotSeq q.2) {a : Addr} {vs : Array Value} (x : h.IsList a vs) : (Mine.frz h L own).IsList a vs := by
  obtain ⟨o, ho, hc, n, hd⟩ := x
  exact ⟨o, frz_seq S hn ho hd, hc, n, hd⟩
theorem frz_pr {g : Heap} {L : Addr} {m : Str → Option Value} {own : List (Addr × Obj)} {h : Heap} (S : St g L m own h) (hn : ∀ q ∈ own, NotSeq q.2) {v : Value} {p : PI} (x : IsPr h v p) : IsPr (Mine.frz h L own) v p := by
  obtain ⟨t, u1, u2, e, o, ho, hc, n, hd⟩ := x
  exact ⟨t, u1, u2, e, o, frz_seq S hn ho hd, hc, n, hd⟩
theorem frz_prs {g : Heap} {L : Addr} {m : Str → Option Value} {own : List (Addr × Obj)} {h : Heap} (S : St g L m own h) (hn : ∀ q ∈ own, NotSeq q.2) {v : Value} {p : List PI} (x : IsPrs h v p) : IsPrs (Mine.frz h L own) v p := by
  obtain ⟨D, vs, e, l, q⟩ := x
  exact ⟨D, vs, e, frz_list S hn l, paired_mono (fun _ _ => frz_pr S hn) q⟩

set_option maxHeartbeats 4000000 in
theorem law_tail {w : World} {mg mb : Str → Option Value} {A : Around} {E : Value → Shared → Prop} {g : Heap} {L : Addr} {m : Str → Option Value} {own : List (Addr × Obj)} {h : Heap} {gens : Array GenState} {d : Drawn} {tk : Nat} {os : OsState} {row : Row} {lt hla ra : Addr} {ocr oco : Obj} {v0 : Option Value} {Q : Flow → Shared → Prop}
    (B : Bas w mg mb g) (F : Fine A 16) (S : St g L m own h) (J : LJ row (2 ^ (holesFrom 0 row).length) L lt hla ocr oco g m own) (hcr : CellIs ocr (some (.ref ra))) (hco : CellIs oco v0) (hr : IsRow g ra row) (hlen : row.length ≤ 9) (h5 : (holesFrom 0 row).length ≤ 5)
    (hQ : ∀ h' tk' gens', Le g h' → GExt gens gens' → Q (.ret (.bool true)) ⟨h', gens', d, tk', os⟩) :
    wpAny (model PG w) A (execs ((dB 14).drop 4) (lE L)) Q E ⟨h, gens, d, tk, os⟩ := by
  obtain ⟨tvs, tls, n, rfl, htp, hgood, hall, htl⟩ := J.objs
  have htvl := paired_length htp
  refine wpAny_execs_cons (wpAny_Assign_Name (wpAny_Call_NameR (gn (v := .ref 89) B S rfl (callWith_def (o := _) (fd := fdI 13 (.str "law_mq0175_01" 265) (.ref 88)) (f := 89) rfl (wpAny_items_cons (nmC (S.at 0 rfl) hcr (wpAny_items_nil ⟨(B.keeps S.keep).X 89 _ rfl, wpAny_call ?_⟩)))))))
  refine heaped_spec (B.keeps S.keep) (F.of (by omega)) (Le.row S.keep hr) (by omega) h5 (fun s' hF hx => ?_) (fun s' D vs ps n' H O hx hD hps G hperm hpw => ?_)
  · obtain ⟨h₂, gens₂, d₂, tk₂, os₂⟩ := s'
    obtain ⟨k₂, e₂, ed₂, hge₂⟩ := hx
    dsimp only at k₂ e₂ ed₂ hge₂
    subst e₂ ed₂
    have S₂ := S.keeps k₂
    refine sn S₂ fun h₃ S₃ => ?_
    dsimp only at S₃ ⊢
    refine wpAny_execs_cons (wpAny_If (wpAny_isTrue_Compare1 (nm S₃ rfl (wpAny_Constant_none (is_none_none (wpAny_truthy_bool ?_))))))
    rw [if_pos rfl]
    have htn : tvs = [] := by
      cases tls with
      | nil => exact List.length_eq_zero_iff.mp htvl
      | cons qs r =>
        obtain ⟨k, hf, _⟩ := hgood qs (.head _)
        exact absurd hf (greedy_fails hF (fil_sub fun x hx => (pick_sub k _ 0).subset hx))
    refine wpAny_execs_cons (wpAny_Return_some (wpAny_Compare1 (nm S₃ J.mt (wpAny_List (wpAny_items_nil ⟨by decide, ?_⟩)))))
    refine eq_nil (vs := tvs) ⟨_, Heap.get?_push_of_some _ (S₃.at 2 rfl), rfl, _, rfl⟩ ⟨_, Heap.get?_push_size _ rfl, rfl, _, rfl⟩ (by have := F.units; omega) ?_
    rw [decide_eq_true htn]
    exact hQ _ _ _ (fun b o e => Heap.get?_push_of_some _ (S₃.keep b o e)) hge₂
  · obtain ⟨h₂, gens₂, d₂, tk₂, os₂⟩ := s'
    obtain ⟨k₂, e₂, ed₂, hge₂⟩ := hx
    dsimp only at k₂ e₂ ed₂ hge₂ hD hps
    subst e₂ ed₂
    have S₂ : St g L _ _ _ := S.keeps k₂
    have S₂' : St g L m [(L + 3, oco)] h₂ := (S₂.perm (List.Perm.swap _ _ _)).drop (rest := [(L + 1, ocr), (lt, lobj (List.toArray tvs) n)])
    have hns : ∀ q ∈ [(L + 3, oco)], NotSeq q.2 := fun q hq => by
      rw [List.mem_singleton.mp hq]
      intro vs n hx
      have := hco
      unfold CellIs at this
      rw [this] at hx; cases hx
    have hg₂ := S₂'.frz_le
    have S₃ := S₂'.frz
    have hDg := frz_list S₂' hns (a := D) ⟨_, hD, rfl, _, rfl⟩
    have hltg := frz_list S₂' hns (a := lt) ⟨_, S₂.at 2 rfl, rfl, _, rfl⟩
    have hpsg := paired_mono (fun _ _ => frz_pr S₂' hns) hps
    generalize Mine.frz h₂ L [(L + 3, oco)] = g₂ at *
    have htpg := paired_mono (fun _ _ => hg₂.isPrs) htp
    have hvl := paired_length hps
    have hol := G.opened.2.1
    have hpl := hperm.length_eq
    refine sn S₃ fun h₄ S₄ => ?_
    dsimp only at S₄ ⊢
    refine wpAny_execs_cons (wpAny_If (wpAny_isTrue_Compare1 (nm S₄ rfl (wpAny_Constant_none (is_ref_none (wpAny_truthy_bool ?_))))))
    rw [if_neg (by simp)]
    refine wpAny_execs_nil (law_others (B.keeps hg₂) F S₄ hco J.mt rfl hltg htpg hDg hpsg (by omega) ?_ ?_ fun h' tk' hle => hQ _ _ _ (hg₂.trans hle) hge₂)
    · intro qs hqs
      obtain ⟨k, hf, hp, hw⟩ := hgood qs hqs
      exact greedy_least G (pick_sub k _ 0) hf hperm hpw hp hw
    · obtain ⟨k, hk, hkp, hkf⟩ := greedy_word G
      obtain ⟨qs, hqs, _, hp, hw⟩ := hall k hk hkf
      rw [sorted_eq ((hperm.trans hkp.symm).trans hp.symm) hpw hw]
      exact hqs
end Mine
end
section
open PySem PySem.W PySem.W.X PySem.Calls PyProof.Rows
set_option maxRecDepth 10000
namespace Mine

theorem holes_few : ∀ (row : Row) (k : Nat), (holesFrom k row).length = (row.filter holeP).length
  | [], _ => rfl
  | p :: r, k => by
    rw [holesFrom, List.length_append, holes_few r (k + 1), List.filter_cons]
    by_cases h : p.1 = qS
    · rw [if_pos h, if_pos (by simp [holeP, h])]; simp; omega
    · rw [if_neg h, if_neg (by simp [holeP, h])]; simp

theorem frz_row {g : Heap} {L : Addr} {m : Str → Option Value} {own : List (Addr × Obj)} {h : Heap} (S : St g L m own h) (hn : ∀ q ∈ own, NotSeq q.2) {ra : Addr} {row : Row} (x : IsRow h ra row) : IsRow (Mine.frz h L own) ra row := by
  obtain ⟨vs, l, p⟩ := x
  refine ⟨vs, frz_list S hn l, paired_mono (fun v q y => ?_) p⟩
  obtain ⟨t, u1, u2, e, o, ho, hc, n, hd⟩ := y
  exact ⟨t, u1, u2, e, o, frz_seq S hn ho hd, hc, n, hd⟩

set_option maxHeartbeats 8000000 in
theorem law_spec {w : World} {mg mb : Str → Option Value} {A : Around} {R : Result → Shared → Prop} {s : Shared} (B : Bas w mg mb s.heap) (F : Fine A 20) {sa : Addr} {ns : List Int}
    (hs : IsInts s.heap sa ns) (hlen : ns.length ≤ 63) (hR : ∀ s', Ext s s' → R (.ok (.ret (.bool true))) s') :
    codeAny (model PG w) A (.call (.ref 94) ⟨[.ref sa], []⟩) R s := by
  obtain ⟨hp, gens, d, tk, os⟩ := s
  refine enterC (fd := lF) (binds := [("script", .ref sa)]) B F.room (ho := rfl) rfl rfl rfl (fun x hx => by rw [List.mem_singleton.mp hx]; exact .inl rfl) (fun h₁ tk₁ E S B₁ hcells => ?_)
  dsimp only at S B hs hR hcells ⊢
  obtain ⟨⟨oc1, hoc1, hcv1⟩, hL1⟩ := hcells "row" (hp.objs.size + 1) rfl
  obtain ⟨⟨oc2, hoc2, hcv2⟩, hL2⟩ := hcells "word" (hp.objs.size + 2) rfl
  obtain ⟨⟨oc3, hoc3, hcv3⟩, hL3⟩ := hcells "other" (hp.objs.size + 3) rfl
  have fresh : ∀ a, hp.objs.size ≤ a → hp.get? a = none := fun a ha => by
    cases e : hp.get? a with
    | none => rfl
    | some o' => exact absurd (Heap.lt_size e) (Nat.not_lt.mpr ha)
  have S : St hp hp.objs.size _ [(hp.objs.size + 1, oc1), (hp.objs.size + 3, oc3), (hp.objs.size + 2, oc2)] h₁ := ⟨S.ns, S.keep, S.off, fun q hq => by
    simp only [List.mem_cons, List.not_mem_nil, or_false] at hq
    rcases hq with rfl | rfl | rfl
    · exact ⟨hoc1, fresh _ (Nat.le_of_lt hL1), Nat.ne_of_gt hL1⟩
    · exact ⟨hoc3, fresh _ (Nat.le_of_lt hL3), Nat.ne_of_gt hL3⟩
    · exact ⟨hoc2, fresh _ (Nat.le_of_lt hL2), Nat.ne_of_gt hL2⟩, by simp⟩
  clear hcells fresh hL1 hL2 hL3 hoc1 hoc2 hoc3
  generalize hp.objs.size = L at *
  have F' := F.deeper (callEnvC lF L 94)
  generalize A.deeper (callEnvC lF L 94) = A' at F' ⊢
  -- the row
  refine wpAny_execs_cons (wpAny_Assign_Name (wpAny_Call_NameR (gn (v := .ref 68) B S rfl (callWith_def (o := _) (fd := rF) (f := 68) rfl (wpAny_items_cons (nm S rfl (wpAny_items_nil ⟨(B.keeps S.keep).X 68 _ rfl, wpAny_call ?_⟩)))))))
  refine row_spec B₁ (F'.of (by omega)) (Le.ints S.keep hs) hlen fun s' ra row hx hrow hrl hpc hfew => ?_
  obtain ⟨h₂, gens₂, d₂, tk₂, os₂⟩ := s'
  obtain ⟨k₂, e₂, ed₂, hge₂⟩ := hx
  dsimp only at k₂ e₂ ed₂ hge₂ hrow
  subst e₂ ed₂
  have h5 : (holesFrom 0 row).length ≤ 5 := by rw [holes_few]; exact hfew
  have S₂ : St hp L _ _ _ := S.keeps k₂
  have ncell : ∀ {o : Obj} {v : Option Value}, CellIs o v → NotSeq o := fun {o v} hc vs n hx => by
    unfold CellIs at hc
    rw [hc] at hx; cases hx
  have hns : ∀ q ∈ [(L + 1, oc1), (L + 3, oc3), (L + 2, oc2)], NotSeq q.2 := fun q hq => by
    simp only [List.mem_cons, List.not_mem_nil, or_false] at hq
    rcases hq with rfl | rfl | rfl
    · exact ncell hcv1
    · exact ncell hcv3
    · exact ncell hcv2
  have hrowg := frz_row S₂ hns hrow
  have hg₂ := S₂.frz_le
  have S₂f := S₂.frz
  generalize Mine.frz h₂ L [(L + 1, oc1), (L + 3, oc3), (L + 2, oc2)] = g at *
  clear S₂ S k₂ hrow hns
  have Bg := B.keeps hg₂
  refine snC (s := ⟨h₂, _, _, _, _⟩) (S₂f.at 0 rfl) hcv1 fun h₃ ocr hocr hcr hext => ?_
  have S₃ : St g L _ [(L + 1, ocr), (L + 3, oc3), (L + 2, oc2)] h₃ := S₂f.upd 0 rfl hext hocr
  clear S₂f hext hocr
  dsimp only
  obtain ⟨rvs, hrlist, hrvs⟩ := id hrowg
  have hrvl := paired_length hrvs
  -- the holes
  refine wpAny_execs_cons (comp_assign (cl := []) rfl ?_)
  refine wpAny_Call_NameR (bn Bg S₃ rfl boot_enumerate (callWith_type1 (wpAny_items_cons (nmC (S₃.at 0 rfl) hcr (wpAny_items_nil ?_)))))
  refine call_enumerate_list (s := ⟨h₃, _, _, _, _⟩) (Le.list S₃.keep hrlist) fun h₄ he hit hz hk => ?_
  dsimp only at he hit hz hk ⊢
  refine wpAny_pyIter_enum (s := ⟨h₄, _, _, _, _⟩) he ?_
  obtain ⟨oi, hoi, hoc, hod⟩ := hit
  have S₄ := S₃.grows (new := [(h₃.objs.size + 1, eobj h₃.objs.size), (h₃.objs.size, oi)]) hk
    (fun p hp => by
      rcases List.mem_cons.mp hp with rfl | hp
      · exact ⟨he, Nat.le_succ _⟩
      · rcases List.mem_singleton.mp hp with rfl
        exact ⟨hoi, Nat.le_refl _⟩)
    (by simp)
  refine ⟨[(h₃.objs.size + 1, eobj h₃.objs.size), (h₃.objs.size, oi)], rvs.toArray.size, _, g, _, _,
    enumInts (G := g) (fun i => (holesFrom 0 (row.take i)).map (·.2)) (fun i => row[i]?.any holeP) (fun i => (i : Int)) F'.handled he hoi hoc hod (Nat.succ_ne_self _) S₄.hidG hrlist rfl ?hF1 (by rw [List.size_toArray]; omega) (fun i v t m' hv mi mv => ⟨t, mi⟩) ?test, S₄, ?rest⟩
  case hF1 =>
    intro i hi
    rw [List.size_toArray, hrvl] at hi
    have hget : row[i]? = some row[i] := List.getElem?_eq_getElem hi
    rw [holes_step hget, List.map_append, hget]
    by_cases hq : row[i].1 = qS
    · rw [if_pos hq, if_pos (by simp [holeP, hq])]; rfl
    · rw [if_neg hq, if_neg (by simp [holeP, hq])]; rfl
  case test =>
    intro E' C i v tok g₁ m' own' h' tk' hv hg₁ mi mv S'
    obtain ⟨x, hx, ta, u1, u2, rfl, htup⟩ := paired_get hrvs (show rvs[i]? = some v by simpa using hv)
    refine wpAny_isTrue_Compare1 (Subscript_ (nm S' mv (wpAny_Constant_int (item_tupleT (((htup.keeps S₄.hidG).keeps hg₁).keeps S'.keep) (by decide) (by decide) rfl rfl (wpAny_Constant_str (eqS (wpAny_truthy_bool ⟨?_, h', _, rfl, Le.refl _⟩)))))))
    rw [hx]; rfl
  case rest =>
    intro D h₅ tk₅ g₁ ys k hD hgD hDL hDo S₅ _ hJ'
    obtain ⟨hys, _, _⟩ := hJ'
    obtain ⟨g', hgg', S₆, hDg⟩ := S₅.addF hD hDL hDo
    rw [List.size_toArray, hrvl, List.take_length] at hys
    have hholes : IsInts g' D ((holesFrom 0 row).map (·.2)) := ⟨ys, ⟨_, hDg, rfl, _, rfl⟩, hys⟩
    have hyl : ys.length = (holesFrom 0 row).length := by rw [intsAre_len hys, List.length_map]
    have B' := Bg.keeps hgg'
    have hr' : IsRow g' ra row := Le.row hgg' hrowg
    clear S₃ S₄ S₅ he hoi hz hk hoc hod hD hDo
    refine wpAny_execs_cons (wpAny_Assign_Name (wpAny_List (wpAny_items_nil ⟨by decide, ?_⟩)))
    have S₇ := S₆.pushR (lobj (List.toArray []) 0)
    generalize h₅.objs.size = lt at S₇ ⊢
    generalize h₅.push (lobj (List.toArray []) 0) = h₆ at S₇ ⊢
    refine sn S₇ fun h₇ S₈ => ?_
    dsimp only at S₈ ⊢
    clear S₆ S₇
    refine wpAny_execs_cons (wpAny_For (wpAny_Call_NameR (bn B' S₈ rfl boot_range (callWith_type1 (wpAny_items_cons (wpAny_BinOp (wpAny_Constant_int (wpAny_Call_NameR (bn B' S₈ rfl boot_len (PySem.callWith_builtin1 (nm S₈ rfl ?_)))))))))))
    refine len_list (items := ys.toArray) ⟨_, S₈.keep _ _ hDg, rfl, _, rfl⟩ (by rw [List.size_toArray]; omega) ?_
    rw [List.size_toArray, hyl]
    refine pow2 (by omega) fun t₉ k₉ => wpAny_items_nil ?_
    dsimp only
    have hp1 := Nat.two_pow_pos (holesFrom 0 row).length
    have hp2 : 2 ^ (holesFrom 0 row).length ≤ 2 ^ 5 := Nat.pow_le_pow_right (by decide) h5
    generalize hNN : 2 ^ (holesFrom 0 row).length = N at hp1 hp2 ⊢
    refine call_range_1 (wpAny_pyIter_range (IsRange.new ..) (small_one (by omega) (by omega) (by omega) (by omega)) ?_)
    dsimp only
    have S₉ := S₈.pushR { cls := .type "range", data := .fields #[.int 0 k₉, .int (N : Nat) t₉, .int 1 (k₉ + 1)] }
    have S₁₀ := S₉.drop.pushR { cls := .type "range_iterator", data := .fields #[rawInt 0, rawInt (Builtin.Range.rangeSize 0 (N : Nat) 1), rawInt 1] }
    generalize (h₇.push { cls := .type "range", data := .fields #[.int 0 k₉, .int (N : Nat) t₉, .int 1 (k₉ + 1)] }).objs.size = I at S₁₀ ⊢
    generalize (h₇.push { cls := .type "range", data := .fields #[.int 0 k₉, .int (N : Nat) t₉, .int 1 (k₉ + 1)] }).push { cls := .type "range_iterator", data := .fields #[rawInt 0, rawInt (Builtin.Range.rangeSize 0 (N : Nat) 1), rawInt 1] } = h₈ at S₁₀ ⊢
    have S₁₁ := S₁₀.perm (List.Perm.cons (L + 1, ocr) (List.Perm.cons (L + 3, oc3) (List.perm_append_comm (l₂ := [(L + 2, oc2)]) (l₁ := [(lt, lobj (List.toArray []) 0), (I, { cls := .type "range_iterator", data := .fields #[rawInt 0, rawInt (Builtin.Range.rangeSize 0 (N : Nat) 1), rawInt 1] })]))))
    clear S₈ S₉ S₁₀
    refine forIterP (own := [(L + 1, ocr), (L + 3, oc3), (lt, lobj (List.toArray []) 0)]) (iter_cell (c := L + 2) (Src.range F'.handled N)) (fun i g₂ m₂ own₂ gens' => LJ row i L lt D ocr oc3 g₂ m₂ own₂ ∧ GExt gens gens') (Le.refl g') ⟨_, oc2, none, rfl, ?par, hcv2, fun j hj => absurd hj (by omega)⟩ S₁₁
      ⟨⟨⟨[], [], 0, rfl, .nil, (fun _ hx => nomatch hx), (fun k hk => absurd hk (by omega)), Nat.zero_le _⟩, rfl, rfl⟩, hge₂⟩ ?step ?done
    case par =>
      rw [rangeSize_one]
      congr 3
      split
      · simp
      · have : N = 0 := by omega
        omega
    case step =>
      rintro E' i g₂ m₂ own₂ m' own' p h₉ tk₉ gens₉ hi hg₃ ⟨J, hgx⟩ ⟨rfl, rfl⟩ ⟨oi', oc', vc, rfl, hoi', hoc', hcell⟩ S₁₂
      obtain ⟨v', rfl, tv, rfl⟩ := hcell i rfl
      refine wpAny_mono (law_turn (B'.keeps hg₃) (F'.of (by omega)) S₁₂ J hcr hoc' (fun vs n hx => by rw [hoi'] at hx; exact absurd hx.1 (by simp)) ⟨_, hcv3⟩ (Le.row hg₃ hr') hrl hpc h5 (Le.ints hg₃ hholes) (by omega)) (fun f s₂ hf => ?_) fun _ _ e => e
      cases f with
      | next => obtain ⟨g'', m'', own'', h', tk', gens', e, r1, r2, r3, r4⟩ := hf; exact ⟨g'', m'', own'', h', tk', gens', e, r1, r2, r3, hgx.trans r4⟩
      | cont => obtain ⟨g'', m'', own'', h', tk', gens', e, r1, r2, r3, r4⟩ := hf; exact ⟨g'', m'', own'', h', tk', gens', e, r1, r2, r3, hgx.trans r4⟩
      | brk => exact hf.elim
      | ret v => exact hf.elim
    case done =>
      rintro g₂ m₂ own₂ h₉ tk₉ gens₉ hg₃ ⟨J, hgx⟩ S₁₂
      subst hNN
      refine law_tail (B'.keeps hg₃) (F'.of (by omega)) S₁₂ J hcr hcv3 (Le.row hg₃ hr') hrl h5 fun h' tk' gens' hle hgx' => ?_
      exact hR _ ⟨((hg₂.trans hgg').trans hg₃).trans hle, rfl, rfl, hgx.trans hgx'⟩
end Mine
end
section
open PySem PySem.W PySem.W.X PySem.Calls PyProof.Rows
namespace Mine
theorem fineC : Fine callerA 20 := ⟨rfl, by decide +kernel, by decide +kernel⟩
end Mine
set_option maxRecDepth 100000 in
set_option maxHeartbeats 8000000 in
theorem PySem.Challenge.cw_mq0175_01_holds : PySem.Challenge.rw_mq0175_01.Holds := by
  refine Mine.hd ?_
  intro w s₀ s₁ mg mb G Y fa o pm cd doc dV kV ho hd hcd hD hmg hg args vals as hpre hlay hrd hwl hlo
  have KX := kIn_of Y
  have hfa : mg "law" = some (.ref 94) := mg_of KX G.T.g rfl
  have e94 : fa = 94 := by
    have h2 : mg "law" = some (.ref fa) := hmg
    rw [hfa] at h2
    cases h2; rfl
  subst e94
  clear hmg hd hcd hD Y ho
  refine Ground.open G ?_
  intro T B D TE TW
  have BB : Mine.Bas w mg mb s₁.heap := ⟨KX, T.g, T.b, T.nolimit, T.builtins⟩
  clear T B D TE TW G KX
  wrow_args hpre hlay hrd hwl hlo
  rename_i ns hs1 hl0 hL0 hr1 hl2 as1 as2 sa vs as3 hL ra w1 r0 hI hr hc1 hc2
  refine wpAny_call (Mine.law_spec BB Mine.fineC ⟨vs, hL, hI⟩ (by omega) fun s' hx => ?_)
  obtain ⟨more, hm, hb⟩ := hx.gens
  refine ⟨.inl ⟨.bool true, .bool true, [], rfl, fun _ => rfl, ReadsW.bool true, ?_, fun _ => ⟨List.nodup_nil, fun _ hm => (nomatch hm)⟩⟩, .of_keep hx.keep, hx.os, fun y hy => hb y ?_⟩
  · first | rfl | wrow_post
  · rw [hm, hg] at hy
    simpa using hy
end
