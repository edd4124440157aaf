import PyProof.Rows.All
import Wide.All
import OpenK.AllK
import Wide.FinOn
import PySem.Challenge.RW_mj0166_01
open PySem PySem.W PyProof.Rows
set_option Elab.async false
set_option maxRecDepth 100000
namespace Mj

/-! part R1 -/
abbrev Led := List (Addr × Obj)
abbrev Locs := Str → Option Value

/-- h stands behind g: nothing of g is changed, fz are objects made since -/
structure Ext (g h : Heap) (fz : Led) : Prop where
  keep : ∀ b o, g.get? b = some o → h.get? b = some o
  new : ∀ p ∈ fz, h.get? p.1 = some p.2 ∧ g.get? p.1 = none
  nd : (fz.map (·.1)).Nodup

/-- a frame L over h₀, its names m, the objects made since -/
structure St (h₀ : Heap) (L : Addr) (h : Heap) (m : Locs) (news : Led) : Prop where
  fr : Fr h₀ L h m
  nw : News h₀ L h news
  nd : (news.map (·.1)).Nodup

theorem Ext.refl (g : Heap) : Ext g g [] := ⟨fun _ _ e => e, (fun _ h => nomatch h), List.nodup_nil⟩

theorem get_lt {h : Heap} {a : Addr} {o : Obj} (e : h.get? a = some o) : a < h.objs.size := Heap.lt_size e

theorem St.lock {h₀ L h m news} (S : St h₀ L h m news) : ∃ o, h.get? L = some o := let ⟨o, _, _, ho, _⟩ := S.fr.ns; ⟨o, ho⟩

theorem St.ext {h₀ L g h m news fz} (S : St h₀ L g m news) (X : Ext g h fz) : St h₀ L h m (fz ++ news) := by
  refine ⟨S.fr.after X.keep, fun p hp => ?_, ?_⟩
  · rcases List.mem_append.mp hp with hp | hp
    · obtain ⟨e, n⟩ := X.new p hp
      refine ⟨e, fun q => ?_, ?_⟩
      · obtain ⟨o, ho⟩ := S.lock
        rw [q, ho] at n; cases n
      · cases q : h₀.get? p.1 with
        | none => rfl
        | some o => rw [S.fr.keep _ _ q] at n; cases n
    · have z := S.nw p hp
      exact ⟨X.keep _ _ z.1, z.2⟩
  · rw [List.map_append]
    refine List.nodup_append.mpr ⟨X.nd, S.nd, fun a ha b hb => ?_⟩
    obtain ⟨p, hp, rfl⟩ := List.mem_map.mp ha
    obtain ⟨q, hq, rfl⟩ := List.mem_map.mp hb
    intro e
    have := (X.new p hp).2
    rw [e, (S.nw q hq).1] at this
    cases this

theorem St.leave {g L h m fz} (S : St g L h m fz) : Ext g h fz := ⟨S.fr.keep, fun p hp => ⟨(S.nw p hp).1, (S.nw p hp).2.2⟩, S.nd⟩

theorem St.push {h₀ L h m news} (S : St h₀ L h m news) (o : Obj) (hf : o.isFreed = false := by rfl) : St h₀ L (h.push o) m ((h.objs.size, o) :: news) := by
  refine ⟨S.fr.push o, News.push S.fr S.nw o hf, ?_⟩
  rw [List.map_cons]
  refine List.nodup_cons.mpr ⟨fun hm => ?_, S.nd⟩
  obtain ⟨p, hp, e⟩ := List.mem_map.mp hm
  have := get_lt (S.nw p hp).1
  rw [e] at this
  exact Nat.lt_irrefl _ this

theorem St.chg {h₀ L h h' m news d o o'} (S : St h₀ L h m ((d, o) :: news)) (hs : Heap.SameBut d h h') (ho : h'.get? d = some o') : St h₀ L h' m ((d, o') :: news) := by
  have z := S.nw (d, o) (.head _)
  refine ⟨S.fr.change hs z.2.1 z.2.2, fun p hp => ?_, S.nd⟩
  rcases List.mem_cons.mp hp with rfl | hp
  · exact ⟨ho, z.2⟩
  · have y := S.nw p (.tail _ hp)
    refine ⟨(hs.2 _ fun e => ?_).trans y.1, y.2⟩
    have hnd := S.nd
    rw [List.map_cons] at hnd
    exact (List.nodup_cons.mp hnd).1 (List.mem_map.mpr ⟨p, hp, e⟩)

/-- the head's object may be gone or another, new ones are not told -/
theorem St.lose {h₀ L h h' m news d o} (S : St h₀ L h m ((d, o) :: news)) (hs : Heap.ExtBut d h h') : St h₀ L h' m news := by
  have z := S.nw (d, o) (.head _)
  have hnd := S.nd
  rw [List.map_cons] at hnd
  obtain ⟨h1, h2⟩ := List.nodup_cons.mp hnd
  refine ⟨⟨S.fr.ns.extBut hs (Ne.symm z.2.1), fun b x e => hs b x ?_ (S.fr.keep b x e), S.fr.above⟩, fun p hp => ?_, h2⟩
  · rintro rfl
    have := z.2.2
    rw [e] at this; cases this
  · have y := S.nw p (.tail _ hp)
    exact ⟨hs _ _ (fun e => h1 (List.mem_map.mpr ⟨p, hp, e⟩)) y.1, y.2⟩

theorem St.set {h₀ L h h' m m' news} (S : St h₀ L h m news) (hn : h'.Ns L m') (hs : Heap.SameBut L h h') : St h₀ L h' m' news :=
  ⟨S.fr.set hn hs, S.nw.set hs, S.nd⟩

theorem St.perm {h₀ L h m news news'} (S : St h₀ L h m news) (hp : news.Perm news') : St h₀ L h m news' :=
  ⟨S.fr, fun p h => S.nw p (hp.mem_iff.mpr h), (hp.map _).nodup_iff.mp S.nd⟩
theorem St.sub {h₀ L h m news news'} (S : St h₀ L h m news) (hp : news'.Sublist news) : St h₀ L h m news' :=
  ⟨S.fr, fun p h => S.nw p (hp.subset h), S.nd.sublist (hp.map _)⟩
theorem St.tail {h₀ L h m p news} (S : St h₀ L h m (p :: news)) : St h₀ L h m news := S.sub (List.sublist_cons_self _ _)
theorem St.swap {h₀ L h m p q news} (S : St h₀ L h m (p :: q :: news)) : St h₀ L h m (q :: p :: news) := S.perm (.swap _ _ _)
theorem St.get {h₀ L h m news a o} (S : St h₀ L h m news) (hm : (a, o) ∈ news) : h.get? a = some o := (S.nw _ hm).1
theorem St.head {h₀ L h m news a o} (S : St h₀ L h m ((a, o) :: news)) : h.get? a = some o := S.get (.head _)

theorem Ext.sub {g h fz fz'} (X : Ext g h fz) (hp : fz'.Sublist fz) : Ext g h fz' := ⟨X.keep, fun p q => X.new p (hp.subset q), X.nd.sublist (hp.map _)⟩

/-! expressions -/
section
variable {M : Model} {A : Around} {E : Value → Shared → Prop} {s : Shared} {env : Env} {h₀ : Heap} {m : Locs} {news : Led}

theorem ev_local {x : Str} {pos : Pos} {v : Value} {Q : Value → Shared → Prop} (S : St h₀ env.locals s.heap m news) (hv : m x = some v) (h : Q v s)
    (hk : env.scope.kind = .function := by rfl) (hl : env.kindOf x = some .local := by rfl) (hd : (x == ("__debug__" : Str)) = false := by decide) :
    wpAny M A (eval (.Name x pos) env) Q E s := wpAny_Name (wpAny_loadName_local hk hl S.fr.ns hv h) hd

theorem ld_local {x : Str} {v : Value} {Q : Value → Shared → Prop} (S : St h₀ env.locals s.heap m news) (hv : m x = some v) (h : Q v s)
    (hk : env.scope.kind = .function := by rfl) (hl : env.kindOf x = some .local := by rfl) :
    wpAny M A (loadName env x) Q E s := wpAny_loadName_local hk hl S.fr.ns hv h

theorem st_local {x : Str} {v : Value} {Q : Unit → Shared → Prop} (S : St h₀ env.locals s.heap m news)
    (h : ∀ h' tk, 0 < tk → St h₀ env.locals h' (fun y => if y = x then some v else m y) news → Q () { s with heap := h', toks := tk })
    (hk : env.scope.kind = .function := by rfl) (hl : env.kindOf x = some .local := by rfl) :
    wpAny M A (storeName env x v) Q E s :=
  wpAny_storeName_local hl S.fr.ns (fun h' hn hs => h h' _ (Nat.succ_pos _) (S.set hn hs)) (by rw [hk]; rfl)

theorem ev_global {x : Str} {pos : Pos} {v : Value} {mg : Locs} {Q : Value → Shared → Prop} (S : St h₀ env.locals s.heap m news) (hg : h₀.Ns env.globals mg) (hv : mg x = some v) (h : Q v s)
    (hk : env.scope.kind = .function := by rfl) (hx : env.kindOf x = some .globalImplicit := by rfl) (hd : (x == ("__debug__" : Str)) = false := by decide) :
    wpAny M A (eval (.Name x pos) env) Q E s := Calls.Name_function_global hk hx (Calls.loadGlobal_global (hg.keeps S.fr.keep) hv h) hd

theorem ev_builtin {x : Str} {pos : Pos} {v : Value} {mg mb : Locs} {Q : Value → Shared → Prop} (S : St h₀ env.locals s.heap m news) (hg : h₀.Ns env.globals mg) (hn : mg x = none) (hb : h₀.Ns env.builtins mb) (hv : mb x = some v) (h : Q v s)
    (hk : env.scope.kind = .function := by rfl) (hx : env.kindOf x = some .globalImplicit := by rfl) (hd : (x == ("__debug__" : Str)) = false := by decide) :
    wpAny M A (eval (.Name x pos) env) Q E s := Calls.Name_function_global hk hx (Calls.loadGlobal_builtin (hg.keeps S.fr.keep) hn (hb.keeps S.fr.keep) hv h) hd

theorem new_list {L : Addr} {vs : List Value} {Q : Value → Shared → Prop} (S : St h₀ L s.heap m news)
    (h : ∀ l h', St h₀ L h' m ((l, listOf vs.toArray 0) :: news) → Q (.ref l) { s with heap := h' }) (hsz : vs.length ≤ sizeLine := by exact Nat.le_of_ble_eq_true rfl) :
    wpAny M A (newList vs) Q E s :=
  wpAny_newObj_type (h _ _ (S.push _)) (by show vs.toArray.size ≤ sizeLine; rw [List.size_toArray]; exact hsz)

abbrev tupOf (its : Array Value) (n : Nat) : Obj := { cls := .type "tuple", data := .seq its n }
theorem new_tuple {L : Addr} {vs : List Value} {Q : Value → Shared → Prop} (S : St h₀ L s.heap m news)
    (h : ∀ l h', St h₀ L h' m ((l, tupOf vs.toArray 0) :: news) → Q (.ref l) { s with heap := h' }) (hsz : vs.length ≤ sizeLine := by exact Nat.le_of_ble_eq_true rfl) :
    wpAny M A (newTuple vs) Q E s :=
  wpAny_newObj_type (h _ _ (S.push _)) (by show vs.toArray.size ≤ sizeLine; rw [List.size_toArray]; exact hsz)
end

section
variable {prog : Program} {w : World} {A : Around} {E : Value → Shared → Prop} {s : Shared} {h₀ : Heap} {L : Addr} {m : Locs} {news : Led}

theorem list_append {D : Addr} {its : Array Value} {n : Nat} {x : Value} {Q : Value → Shared → Prop} (S : St h₀ L s.heap m ((D, listOf its n) :: news))
    (h : ∀ h' n', St h₀ L h' m ((D, listOf (its.push x) n') :: news) → Q .none { s with heap := h' }) (hsz : its.size ≤ sizeLine) :
    wpAny (model prog w) A (call (.builtin "list.append") [.ref D, x]) Q E s :=
  append_at (hsz := hsz) S.head fun h' hs ho' => h h' _ (S.chg hs ho')

theorem list_method {D : Addr} {its : Array Value} {n : Nat} {name : Str} {id : String} {pl : Sem Bool} {Q : Value × List Value → Shared → Prop} (hD : s.heap.get? D = some (listOf its n)) (slot : Slot "list" name id) (hty : typeOf (.builtin id) = pure (.type "method_descriptor"))
    (h : Q (.builtin id, [.ref D]) s) : wpAny (model prog w) A (getMethod (.ref D) name pl) Q E s :=
  getMethod_builtin ⟨_, hD, rfl⟩ PySem.F.plainAttrs_list slot hty (fun a e => by cases e; exact ⟨_, hD, rfl⟩) h
end

/-! part R2 -/
/-! loops -/
abbrev NoE : Value → Shared → Prop := fun _ _ => False

section
variable {prog : Program} {w : World} {A : Around} {E : Value → Shared → Prop} {s : Shared} {env : Env} {h₀ : Heap}

/-- what a turn of a loop must give -/
def Turn (h₀ : Heap) (L it : Addr) (o : Obj) (own : Led) (s : Shared) (J : Locs → Led → Prop) (Q : Flow → Shared → Prop) (f : Flow) (s₃ : Shared) : Prop :=
  match f with
  | .ret v => Q (.ret v) s₃
  | .brk => Q .next s₃
  | _ => ∃ h' tk' m₂ news₂, s₃ = { s with heap := h', toks := tk' } ∧ St h₀ L h' m₂ ((it, o) :: (own ++ news₂)) ∧ J m₂ news₂

theorem loop_list {x : Str} {px : Pos} {body : List Stmt} {l : Addr} {items : Array Value} {m : Locs} {own news : Led} {Q : Flow → Shared → Prop}
    (J : Nat → Locs → Led → Prop) (hh : A.handled = none)
    (S : St h₀ env.locals s.heap m (own ++ news)) (hl : ∀ h : Heap, (∀ b o, h₀.get? b = some o → h.get? b = some o) → (∀ p ∈ own, h.get? p.1 = some p.2) → h.IsList l items) (h0 : J 0 m news)
    (turn : ∀ i v m₁ news₁ h tk it o, items[i]? = some v → J i m₁ news₁ → 0 < tk → St h₀ env.locals h (fun y => if y = x then some v else m₁ y) ((it, o) :: (own ++ news₁)) →
      wpAny (model prog w) A (execs body env) (Turn h₀ env.locals it o own s (J (i + 1)) Q) NoE { s with heap := h, toks := tk })
    (done : ∀ m₁ news₁ h tk, J items.size m₁ news₁ → St h₀ env.locals h m₁ (own ++ news₁) → Q .next { s with heap := h, toks := tk })
    (hk : env.scope.kind = .function := by rfl) (hx : env.kindOf x = some .local := by rfl) :
    wpAny (model prog w) A (pyIter (.ref l)) (fun it s₂ => codeAny (model prog w) A (.forLoop (.Name x px) it body [] env) (fun r s' => match r with | .ok f => Q f s' | .error e => cameBackBy (model prog w) A env E e s') s₂) E s := by
  have lst : ∀ {h m₁ news₁ it o}, St h₀ env.locals h m₁ ((it, o) :: (own ++ news₁)) → h.IsList l items := fun S =>
    hl _ S.fr.keep fun p hp => S.get (.tail _ (List.mem_append_left _ hp))
  refine wpAny_pyIter_list (hl _ S.fr.keep fun p hp => S.get (List.mem_append_left _ hp)) ?_
  generalize hit : s.heap.objs.size = it
  refine codeAny_forLoop
    (fun n s' => ∃ h' tk m₁ news₁ i o, s' = { s with heap := h', toks := tk } ∧ h'.IsListIter it l i ∧ St h₀ env.locals h' m₁ ((it, o) :: (own ++ news₁)) ∧ J i m₁ news₁ ∧ i ≤ items.size ∧ n = items.size + 1 - i)
    ?_ (items.size + 1) ⟨_, s.toks, m, news, 0, _, rfl, ⟨_, hit ▸ Heap.get?_push_size _ rfl, rfl, rfl⟩, hit ▸ S.push _, h0, Nat.zero_le _, rfl⟩
  rintro n s' ⟨h', tk, m₁, news₁, i, o, rfl, hit', S', hJ, hi, rfl⟩
  cases hv : items[i]? with
  | none =>
    have hsz : i = items.size := Nat.le_antisymm hi (by simpa using hv)
    refine wpAny_pyNext_list_end hh hit' (lst S') hv fun h₁ he₁ => wpAny_execs_nil ?_
    exact done m₁ news₁ h₁ tk (hsz ▸ hJ) (S'.lose he₁)
  | some v =>
    have hlt : i < items.size := (Array.getElem?_eq_some_iff.mp hv).1
    refine wpAny_pyNext_list_item hit' (lst S') hv fun h₁ hit₁ hs₁ => ?_
    obtain ⟨o₁, ho₁, hc₁, hd₁⟩ := id hit₁
    refine wpAny_assign_Name (st_local (S'.chg hs₁ ho₁) (fun h₂ tk₂ l₂ S₂ => ?_) hk hx)
    refine wpAny_mono (turn i v m₁ news₁ h₂ tk₂ it o₁ hv hJ l₂ S₂) (fun f s₃ t => ?_) fun _ _ e => e.elim
    have go : ∀ h' tk' m₂ news₂, s₃ = { s with heap := h', toks := tk' } → St h₀ env.locals h' m₂ ((it, o₁) :: (own ++ news₂)) → J (i + 1) m₂ news₂ →
        ∃ m, m < items.size + 1 - i ∧ ∃ h' tk m₁ news₁ j o, s₃ = { s with heap := h', toks := tk } ∧ h'.IsListIter it l j ∧ St h₀ env.locals h' m₁ ((it, o) :: (own ++ news₁)) ∧ J j m₁ news₁ ∧ j ≤ items.size ∧ m = items.size + 1 - j :=
      fun h' tk' m₂ news₂ e S₃ hJ₃ => ⟨items.size + 1 - (i + 1), by omega, h', tk', m₂, news₂, i + 1, o₁, e, ⟨o₁, S₃.head, hc₁, hd₁⟩, S₃, hJ₃, hlt, rfl⟩
    cases f with
    | ret v => exact t
    | brk => exact t
    | next => obtain ⟨h', tk', m₂, news₂, e, S₃, hJ₃⟩ := t; exact go h' tk' m₂ news₂ e S₃ hJ₃
    | cont => obtain ⟨h', tk', m₂, news₂, e, S₃, hJ₃⟩ := t; exact go h' tk' m₂ news₂ e S₃ hJ₃

theorem loop_str {x : Str} {px : Pos} {body : List Stmt} {z : Str} {t : Tok} {m : Locs} {news : Led} {Q : Flow → Shared → Prop}
    (J : Nat → Locs → Led → Prop) (hh : A.handled = none) (ha : z.cps.all (· < 128) = true)
    (S : St h₀ env.locals s.heap m news) (h0 : J 0 m news)
    (turn : ∀ i c u m₁ news₁ h tk it o, z.cps[i]? = some c → J i m₁ news₁ → 0 < tk → St h₀ env.locals h (fun y => if y = x then some (.str ⟨#[c]⟩ u) else m₁ y) ((it, o) :: ([] ++ news₁)) →
      wpAny (model prog w) A (execs body env) (Turn h₀ env.locals it o [] s (J (i + 1)) Q) NoE { s with heap := h, toks := tk })
    (done : ∀ m₁ news₁ h tk, J z.cps.size m₁ news₁ → St h₀ env.locals h m₁ news₁ → Q .next { s with heap := h, toks := tk })
    (hk : env.scope.kind = .function := by rfl) (hx : env.kindOf x = some .local := by rfl) :
    wpAny (model prog w) A (pyIter (.str z t)) (fun it s₂ => codeAny (model prog w) A (.forLoop (.Name x px) it body [] env) (fun r s' => match r with | .ok f => Q f s' | .error e => cameBackBy (model prog w) A env E e s') s₂) E s := by
  refine wpAny_pyIter_ascii ha ?_
  generalize hit : s.heap.objs.size = it
  refine codeAny_forLoop
    (fun n s' => ∃ h' tk m₁ news₁ i o, s' = { s with heap := h', toks := tk } ∧ h'.IsStrIter it "str_ascii_iterator" z t i ∧ St h₀ env.locals h' m₁ ((it, o) :: ([] ++ news₁)) ∧ J i m₁ news₁ ∧ i ≤ z.cps.size ∧ n = z.cps.size + 1 - i)
    ?_ (z.cps.size + 1) ⟨_, s.toks, m, news, 0, _, rfl, ⟨_, hit ▸ Heap.get?_push_size _ rfl, rfl, rfl⟩, hit ▸ S.push _, h0, Nat.zero_le _, rfl⟩
  rintro n s' ⟨h', tk, m₁, news₁, i, o, rfl, hit', S', hJ, hi, rfl⟩
  cases hv : z.cps[i]? with
  | none =>
    have hsz : i = z.cps.size := Nat.le_antisymm hi (by simpa using hv)
    refine wpAny_pyNext_ascii_end hh hit' hv fun h₁ he₁ => wpAny_execs_nil ?_
    exact done m₁ news₁ h₁ tk (hsz ▸ hJ) (S'.lose he₁)
  | some c =>
    have hlt : i < z.cps.size := (Array.getElem?_eq_some_iff.mp hv).1
    refine wpAny_pyNext_ascii_item hit' hv fun h₁ hit₁ hs₁ => ?_
    obtain ⟨o₁, ho₁, hc₁, hd₁⟩ := id hit₁
    refine wpAny_assign_Name (st_local (S'.chg hs₁ ho₁) (fun h₂ tk₂ l₂ S₂ => ?_) hk hx)
    refine wpAny_mono (turn i c _ m₁ news₁ h₂ tk₂ it o₁ hv hJ l₂ S₂) (fun f s₃ t' => ?_) fun _ _ e => e.elim
    have go : ∀ h' tk' m₂ news₂, s₃ = { s with heap := h', toks := tk' } → St h₀ env.locals h' m₂ ((it, o₁) :: ([] ++ news₂)) → J (i + 1) m₂ news₂ →
        ∃ m, m < z.cps.size + 1 - i ∧ ∃ h' tk m₁ news₁ j o, s₃ = { s with heap := h', toks := tk } ∧ h'.IsStrIter it "str_ascii_iterator" z t j ∧ St h₀ env.locals h' m₁ ((it, o) :: ([] ++ news₁)) ∧ J j m₁ news₁ ∧ j ≤ z.cps.size ∧ m = z.cps.size + 1 - j :=
      fun h' tk' m₂ news₂ e S₃ hJ₃ => ⟨z.cps.size + 1 - (i + 1), by omega, h', tk', m₂, news₂, i + 1, o₁, e, ⟨o₁, S₃.head, hc₁, hd₁⟩, S₃, hJ₃, hlt, rfl⟩
    cases f with
    | ret v => exact t'
    | brk => exact t'
    | next => obtain ⟨h', tk', m₂, news₂, e, S₃, hJ₃⟩ := t'; exact go h' tk' m₂ news₂ e S₃ hJ₃
    | cont => obtain ⟨h', tk', m₂, news₂, e, S₃, hJ₃⟩ := t'; exact go h' tk' m₂ news₂ e S₃ hJ₃
end

/-! part R3 -/
theorem St.leaveBut {g C h h' m fz} (S : St g C h m fz) (hs : Heap.SameBut C h h') : Ext g h' fz := by
  refine ⟨fun b o e => (hs.2 b (Nat.ne_of_lt (Nat.lt_of_lt_of_le (get_lt e) S.fr.above))).trans (S.fr.keep b o e), fun p hp => ?_, S.nd⟩
  have z := S.nw p hp
  exact ⟨(hs.2 _ z.2.1).trans z.1, z.2.2⟩

section
variable {prog : Program} {w : World} {A : Around} {E : Value → Shared → Prop} {s : Shared} {env : Env}

theorem comp_core {elt iter : Expr} {x : Str} {px pos : Pos} {scope : Scope} {l : Addr} {items : Array Value} {Q : Value → Shared → Prop}
    (J : Nat → List Value → Led → Prop) (hh : A.handled = none) (hl : s.heap.IsList l items) (hsz : items.size ≤ sizeLine) (h0 : J 0 [] [])
    (hcell : ∀ y ∈ scope.names, y.2 ≠ .cell) (hkind : scope.kind = .function) (hx : scope.names.lookup x = some .local)
    (turn : ∀ C i v ys fz h tk mC D n I o, items[i]? = some v → J i ys fz → mC x = some v → St s.heap C h mC ((D, listOf ys.toArray n) :: (I, o) :: fz) →
      wpAny (model prog w) A (eval elt (compEnv scope C env)) (fun y s₃ => ∃ h' tk' fz', s₃ = { s with heap := h', toks := tk' } ∧ St s.heap C h' mC ((D, listOf ys.toArray n) :: (I, o) :: fz') ∧ J (i + 1) (ys ++ [y]) fz') NoE { s with heap := h, toks := tk })
    (done : ∀ D n ys fz h tk, J items.size ys fz → Ext s.heap h ((D, listOf ys.toArray n) :: fz) → Q (.ref D) { s with heap := h, toks := tk }) :
    wpAny (model prog w) A (pyIter (.ref l)) (fun it s₂ => wpAny (model prog w) A (newList []) (fun acc s₃ =>
      wpAny (model prog w) A (newFunctionEnv scope env.globals [] [] env.qual none .none (some env)) (fun cenv s₄ =>
        codeAny (model prog w) A (.compStart (.ListComp elt [⟨.Name x px, iter, [], 0⟩] scope pos) 0 it acc { cenv with scope := scope })
          (fun r s' => ∃ m, s'.heap.Ns cenv.locals m ∧ ∀ h', Heap.SameBut cenv.locals s'.heap h' →
            match r with | .ok _ => Q acc { s' with heap := h' } | .error x => wpAny (model prog w) A (passOn "comprehension.variables-let-go" x { cenv with scope := scope }) Q E { s' with heap := h' }) s₄) E s₃) E s₂) E s := by
  refine wpAny_pyIter_list hl (wpAny_newObj_type (wpAny_newFunctionEnv hcell (by intro y hy; simp at hy) (fun h₁ hns₁ hsb₁ => ?_) hkind))
  dsimp only at hns₁ hsb₁ ⊢
  generalize hI : s.heap.objs.size = I at hns₁ hsb₁ ⊢
  generalize hH1 : s.heap.push { cls := .type "list_iterator", data := .fields #[.ref l, .int 0 0] } = H1 at hns₁ hsb₁ ⊢
  have eI : H1.get? I = some { cls := .type "list_iterator", data := .fields #[.ref l, .int 0 0] } := by rw [← hH1, ← hI]; exact Heap.get?_push_size _ rfl
  have k1 : ∀ b o, s.heap.get? b = some o → H1.get? b = some o := fun b o e => hH1 ▸ Heap.get?_push_of_some _ e
  have n1 : H1.objs.size = I + 1 := by rw [← hH1, Heap.size_push, hI]
  generalize hD : H1.objs.size = D at hns₁ hsb₁ ⊢
  generalize hH2 : H1.push { cls := .type "list", data := .seq ([] : List Value).toArray } = H2 at hns₁ hsb₁ ⊢
  have eD : H2.get? D = some (listOf ([] : List Value).toArray 0) := by rw [← hH2, ← hD]; exact Heap.get?_push_size _ rfl
  have k2 : ∀ b o, H1.get? b = some o → H2.get? b = some o := fun b o e => hH2 ▸ Heap.get?_push_of_some _ e
  have n2 : H2.objs.size = D + 1 := by rw [← hH2, Heap.size_push, hD]
  generalize hC : H2.objs.size = C at hns₁ hsb₁ ⊢
  have k3 : ∀ b o, H2.get? b = some o → h₁.get? b = some o := fun b o e =>
    (hsb₁.2 b (Nat.ne_of_lt (hC ▸ get_lt e))).trans (Heap.get?_push_of_some _ e)
  have fresh : ∀ a, s.heap.objs.size ≤ a → s.heap.get? a = none := fun a ha => by
    cases e : s.heap.get? a with
    | none => rfl
    | some o' => exact absurd (get_lt e) (Nat.not_lt.mpr ha)
  have S₀ : St s.heap C h₁ (fun x => List.lookup x ([] : List (Str × Value)).reverse) [(D, listOf ([] : List Value).toArray 0), (I, { cls := .type "list_iterator", data := .fields #[.ref l, .int 0 0] })] := by
    refine ⟨⟨hns₁, fun b o e => k3 b o (k2 b o (k1 b o e)), by omega⟩, fun p hp => ?_, ?_⟩
    · rcases List.mem_cons.mp hp with rfl | hp
      · exact ⟨k3 _ _ eD, by show D ≠ C; omega, fresh _ (by show _ ≤ D; omega)⟩
      · rw [List.mem_singleton.mp hp]
        exact ⟨k3 _ _ (k2 _ _ eI), by show I ≠ C; omega, fresh _ (by show _ ≤ I; omega)⟩
    · show [D, I].Nodup
      have : D ≠ I := by omega
      simp [this]
  have loop : codeAny (model prog w) A (.compLoop (.ListComp elt [⟨.Name x px, iter, [], 0⟩] scope pos) 0 (.ref I) (.ref D) (compEnv scope C env))
      (fun r s' => ∃ m, s'.heap.Ns C m ∧ ∀ h', Heap.SameBut C s'.heap h' →
            match r with | .ok _ => Q (.ref D) { s' with heap := h' } | .error x => wpAny (model prog w) A (passOn "comprehension.variables-let-go" x (compEnv scope C env)) Q E { s' with heap := h' })
      { s with heap := h₁, toks := s.toks + ([] : List (Str × Value)).length } := by
    refine codeAny_compLoop_list
      (fun n s' => ∃ h' tk m₁ fz i o ys k, s' = { s with heap := h', toks := tk } ∧ h'.IsListIter I l i ∧ St s.heap C h' m₁ ((D, listOf ys.toArray k) :: (I, o) :: fz) ∧ J i ys fz ∧ ys.length = i ∧ i ≤ items.size ∧ n = items.size + 1 - i)
      ?_ (items.size + 1) ⟨_, _, _, [], 0, _, [], 0, rfl, ⟨_, k3 _ _ (k2 _ _ eI), rfl, rfl⟩, S₀, h0, rfl, Nat.zero_le _, rfl⟩
    rintro n s' ⟨h', tk, m₁, fz, i, o, ys, k, rfl, hit', S', hJ, hlen, hi, rfl⟩
    have hl' : h'.IsList l items := hl.at fun o e => S'.fr.keep _ o e
    cases hv : items[i]? with
    | none =>
      have hsz : i = items.size := Nat.le_antisymm hi (by simpa using hv)
      refine wpAny_pyNext_list_end hh hit' hl' hv fun h₁ he₁ => ?_
      have S₁ := (St.swap S').lose he₁
      exact ⟨m₁, S₁.fr.ns, fun h₂ hs₂ => done D k ys fz h₂ tk (hsz ▸ hJ) (S₁.leaveBut hs₂)⟩
    | some v =>
      have hlt : i < items.size := (Array.getElem?_eq_some_iff.mp hv).1
      refine wpAny_pyNext_list_item hit' hl' hv fun h₁ hit₁ hs₁ => ?_
      obtain ⟨o₁, ho₁, hc₁, hd₁⟩ := id hit₁
      refine wpAny_assign_Name (st_local (env := compEnv scope C env) (St.swap ((St.swap S').chg hs₁ ho₁)) (fun h₂ tk₂ l₂ S₂ => ?_) hkind hx)
      refine wpAny_mono (turn C i v ys fz h₂ tk₂ _ D k I o₁ hv hJ (by simp) S₂) (fun y s₃ t => ?_) fun _ _ e => e.elim
      obtain ⟨h₃, tk₃, fz₃, rfl, S₃, hJ₃⟩ := t
      refine list_append S₃ (fun h₄ n₄ S₄ => ?_) (by rw [List.size_toArray]; omega)
      have e4 : ys.toArray.push y = (ys ++ [y]).toArray := by simp
      rw [e4] at S₄
      exact ⟨items.size + 1 - (i + 1), by omega, h₄, tk₃, _, fz₃, i + 1, o₁, ys ++ [y], n₄, rfl, ⟨o₁, S₄.get (.tail _ (.head _)), hc₁, hd₁⟩, S₄, hJ₃, by simp [hlen], hlt, rfl⟩
  refine codeAny_compStart_list loop ?_
  exact wpAny_pyIter_listiter (l := l) (i := 0) ⟨_, k3 _ _ (k2 _ _ eI), rfl, rfl⟩ loop

theorem comp_list {elt iter : Expr} {x : Str} {px pos : Pos} {scope : Scope} {Q : Value → Shared → Prop}
    (hfree : ∀ y ∈ scope.names, y.2 ≠ .free) (hkind : scope.kind = .function) (hnames : ∀ y ∈ scope.names, y.2 = .local → scope.names.lookup y.1 = some .local)
    (h : wpAny (model prog w) A (eval iter env) (fun xv s₁ => wpAny (model prog w) A (pyIter xv) (fun it s₂ => wpAny (model prog w) A (newList []) (fun acc s₃ =>
      wpAny (model prog w) A (newFunctionEnv scope env.globals [] [] env.qual none .none (some env)) (fun cenv s₄ =>
        codeAny (model prog w) A (.compStart (.ListComp elt [⟨.Name x px, iter, [], 0⟩] scope pos) 0 it acc { cenv with scope := scope })
          (fun r s' => ∃ m, s'.heap.Ns cenv.locals m ∧ ∀ h', Heap.SameBut cenv.locals s'.heap h' →
            match r with | .ok _ => Q acc { s' with heap := h' } | .error x => wpAny (model prog w) A (passOn "comprehension.variables-let-go" x { cenv with scope := scope }) Q E { s' with heap := h' }) s₄) E s₃) E s₂) E s₁) E s)
    (hs : ∀ x, foldedSetIterable iter env x = pure x := by intro _; rfl) :
    wpAny (model prog w) A (eval (.ListComp elt [⟨.Name x px, iter, [], 0⟩] scope pos) env) Q E s := wpAny_ListComp hfree hkind hnames h hs
end

/-! part R4 -/
/-! the program's defs, by their places in the row -/
def stmtAt (i : Nat) : Stmt := PySem.Challenge.pw_mj0166_01.main.body.getD i (.Pass ⟨0, 0, 0, 0⟩)
def fnName : Stmt → Str
  | .FunctionDef n _ _ _ _ _ _ _ _ _ => n
  | _ => Str.empty
def fnArgs : Stmt → Arguments
  | .FunctionDef _ a _ _ _ _ _ _ _ _ => a
  | _ => ⟨[], [], none, [], [], none, []⟩
def fnBody : Stmt → List Stmt
  | .FunctionDef _ _ b _ _ _ _ _ _ _ => b
  | _ => []
def fnScope : Stmt → Scope
  | .FunctionDef _ _ _ _ _ _ sc _ _ _ => sc
  | _ => ⟨.function, [], false, false, []⟩

/-- the def st stands at f -/
def FnAt (h : Heap) (f : Addr) (st : Stmt) : Prop := ∃ o pm cd doc, h.get? f = some o ∧ o.data = .func (Calls.docDef (fnName st) (fnArgs st) (fnBody st) (fnScope st) pm cd doc) ∧ h.CodeRec cd (fnName st)
theorem FnAt.keeps {h h' : Heap} {f st} (x : FnAt h f st) (hk : ∀ b o, h.get? b = some o → h'.get? b = some o) : FnAt h' f st :=
  let ⟨o, pm, cd, doc, a, b, c⟩ := x; ⟨o, pm, cd, doc, hk _ _ a, b, c.keeps hk⟩

section
variable {prog : Program} {w : World} {A : Around} {E : Value → Shared → Prop} {s : Shared}
theorem call_def {f : Addr} {st : Stmt} {args : List Value} {binds : List (Str × Value)} {Q : Value → Shared → Prop}
    (hf : FnAt s.heap f st) (hlim : s.heap.NoLimit) (hroom : A.depth < recursionLimit)
    (hbind : ∀ pm cd doc, bindArgs (Calls.docDef (fnName st) (fnArgs st) (fnBody st) (fnScope st) pm cd doc) ⟨args, []⟩ = pure binds)
    (hloc : ∀ x ∈ binds, (fnScope st).names.lookup x.1 = some .local)
    (h : ∀ L cd h₁ tk, St s.heap L h₁ (fun x => binds.reverse.lookup x) [] →
      wpAny (model prog w) (A.deeper (envOf (fnName st) (fnScope st) L f cd)) (execs (fnBody st) (envOf (fnName st) (fnScope st) L f cd)) (fun fl s' => Q (match fl with | .ret v => v | _ => .none) s') NoE { s with heap := h₁, toks := tk })
    (hco : (fnScope st).isCoroutine = false := by rfl) (hgen : (fnScope st).isGenerator = false := by rfl) (hk : (fnScope st).kind = .function := by rfl)
    (hcell : ∀ x ∈ (fnScope st).names, x.2 ≠ .cell := by decide) :
    wpAny (model prog w) A (call (.ref f) args) Q E s := by
  obtain ⟨o, pm, cd, doc, ho, hd, hcd⟩ := hf
  refine wpAny_call (call_plain_ret hroom ho hd hlim hcd (hbind pm cd doc) hloc (fun h₁ F => ?_) hco hgen hk hcell)
  exact wpAny_mono (h _ cd h₁ _ ⟨F, News.nil, List.nodup_nil⟩) (fun _ _ x => x) fun _ _ x => x

theorem call_with {env : Env} {pos : Pos} {f : Addr} {st : Stmt} {e : Expr} {rest : List Expr} {Q : Value → Shared → Prop} {M : Model} (hf : FnAt s.heap f st)
    (h : wpAny M A (spliced (backTo pos (starEach (e :: rest) env))) (fun vs s₁ => (∀ o, s.heap.get? f = some o → s₁.heap.get? f = some o) ∧ wpAny M A (call (.ref f) vs) Q E s₁) E s)
    (he : starEach (e :: rest) env = (false, eval e env) :: starEach rest env := by rfl) :
    wpAny M A (callWith pos (.ref f) [] (backTo pos (starEach (e :: rest) env)) []) Q E s := by
  obtain ⟨o, pm, cd, doc, ho, hd, hcd⟩ := hf
  exact callWith_def_at ho hd (wpAny_mono h (fun vs s₁ q => ⟨q.1 o ho, q.2⟩) fun _ _ x => x) he
end

/-- the module's own names and the built-in ones -/
structure Gl (mg mb : Locs) (h : Heap) : Prop where
  g : h.Ns mainGlobals mg
  b : h.Ns builtinsNs mb
  lim : h.NoLimit
  dig : ∃ mc, h.Ns cStatics mc ∧ mc "sys.int_max_str_digits" = none
theorem Gl.keeps {mg mb h h'} (G : Gl mg mb h) (hk : ∀ b o, h.get? b = some o → h'.get? b = some o) : Gl mg mb h' :=
  ⟨G.g.keeps hk, G.b.keeps hk, G.lim.keeps hk, let ⟨mc, a, b⟩ := G.dig; ⟨mc, a.keeps hk, b⟩⟩

section
variable {prog : Program} {w : World} {A : Around} {E : Value → Shared → Prop} {s : Shared} {mg mb : Locs} {Q : Value → Shared → Prop}

theorem is_terminal {f : Addr} {n : Int} {t u : Tok} (G : Gl mg mb s.heap) (hf : FnAt s.heap f (stmtAt 52)) (hn : mg (Str.ofString "NT_OFFSET") = some (.int 256 u)) (hd : A.depth < recursionLimit)
    (h : ∀ h' tk, Ext s.heap h' [] → Q (.bool (decide (n < 256))) { s with heap := h', toks := tk }) : wpAny (model prog w) A (call (.ref f) [.int n t]) Q E s := by
  refine call_def (binds := [(Str.ofString "x", .int n t)]) hf G.lim hd (fun _ _ _ => rfl) (locs rfl) (fun L cd h₁ tk S => ?_)
  refine wpAny_execs_cons (wpAny_Return_some (wpAny_Compare1 ?_))
  refine ev_local S rfl ?_
  refine ev_global S G.g hn ?_
  refine lt_int ?_
  exact h _ _ S.leave
end

/-! part P1 -/
/-! plain texts: lists of code points -/
def S (l : List Nat) : Str := ⟨l.toArray⟩
theorem S_append (a b : List Nat) : S a ++ S b = S (a ++ b) := by
  show Str.mk (a.toArray ++ b.toArray) = _
  simp [S]
theorem S_length (l : List Nat) : (S l).length = l.length := by simp [S, Str.length]
theorem S_inj {a b : List Nat} (h : S a = S b) : a = b := by
  have := congrArg (fun x => x.cps.toList) h
  simpa [S] using this
theorem S_of (x : Str) : x = S x.cps.toList := by cases x; simp [S]
theorem S_one (c : Nat) : (⟨#[c]⟩ : Str) = S [c] := rfl
theorem S_beq (a b : List Nat) : (S a == S b) = decide (a = b) := by
  by_cases h : a = b
  · subst h; simp
  · simp only [h, decide_false]
    exact beq_eq_false_iff_ne.mpr fun e => h (S_inj e)

/-! parse_http_list, one sign at a time -/
structure H where
  res : List (List Nat)
  part : List Nat
  esc : Bool
  quo : Bool
def H.step (a : H) (c : Nat) : H :=
  if a.esc = true then ⟨a.res, a.part ++ [c], false, a.quo⟩
  else if a.quo = true then
    if c = 92 then ⟨a.res, a.part, true, true⟩
    else if c = 34 then ⟨a.res, a.part ++ [c], false, false⟩
    else ⟨a.res, a.part ++ [c], false, true⟩
  else if c = 44 then ⟨a.res ++ [a.part], [], false, false⟩
  else if c = 34 then ⟨a.res, a.part ++ [c], false, true⟩
  else ⟨a.res, a.part ++ [c], false, false⟩
def H.zero : H := ⟨[], [], false, false⟩
def H.run (a : H) (l : List Nat) : H := l.foldl H.step a
def H.out (a : H) : List (List Nat) := if a.part = [] then a.res else a.res ++ [a.part]
def strip (l : List Nat) : List Nat := (Txt.strip (S l)).cps.toList
def httpList (l : List Nat) : List (List Nat) := (H.zero.run l).out.map strip

theorem H.run_snoc (a : H) (l : List Nat) (c : Nat) : a.run (l ++ [c]) = (a.run l).step c := by simp [H.run]
theorem H.run_append (a : H) (l k : List Nat) : a.run (l ++ k) = (a.run l).run k := by simp [H.run]
theorem H.step_len (a : H) (c : Nat) : (a.step c).part.length ≤ a.part.length + 1 ∧ (a.step c).res.length ≤ a.res.length + 1 := by
  unfold H.step
  (repeat' split) <;> simp
theorem H.run_len (l : List Nat) : ∀ a : H, (a.run l).part.length ≤ a.part.length + l.length ∧ (a.run l).res.length ≤ a.res.length + l.length := by
  induction l with
  | nil => intro a; exact ⟨Nat.le_refl _, Nat.le_refl _⟩
  | cons c r ih =>
    intro a
    have h1 := ih (a.step c)
    have h2 := a.step_len c
    simp only [H.run, List.foldl_cons, List.length_cons] at h1 ⊢
    omega

theorem H.run_all {N : Nat} (l : List Nat) : ∀ a : H, (∀ x ∈ a.res, x.length ≤ N) → a.part.length + l.length ≤ N → ∀ x ∈ (a.run l).res, x.length ≤ N := by
  induction l with
  | nil => intro a h _; exact h
  | cons c r ih =>
    intro a h hl
    rw [List.length_cons] at hl
    refine ih (a.step c) ?_ ?_
    · unfold H.step
      (repeat' split) <;> first
        | exact h
        | (intro x hx
           rcases List.mem_append.mp hx with hx | hx
           · exact h x hx
           · rw [List.mem_singleton.mp hx]; omega)
    · have := (a.step_len c).1
      omega
theorem H.out_all (l : List Nat) : ∀ x ∈ (H.zero.run l).out, x.length ≤ l.length := by
  have h := H.run_all (N := l.length) l H.zero (by simp [H.zero]) (by simp [H.zero])
  have h2 := (H.run_len l H.zero).1
  simp only [H.zero, List.length_nil, Nat.zero_add] at h2
  intro x hx
  unfold H.out at hx
  split at hx
  · exact h x hx
  · rcases List.mem_append.mp hx with hx | hx
    · exact h x hx
    · rw [List.mem_singleton.mp hx]; exact h2

/-- str values that bear these texts -/
def Strs (vs : List Value) (ls : List (List Nat)) : Prop := ∃ ts : List Tok, ts.length = ls.length ∧ vs = List.zipWith (fun l t => Value.str (S l) t) ls ts
theorem Strs.nil : Strs [] [] := ⟨[], rfl, rfl⟩
theorem Strs.snoc {vs ls} (h : Strs vs ls) (l : List Nat) (t : Tok) : Strs (vs ++ [.str (S l) t]) (ls ++ [l]) := by
  obtain ⟨ts, h1, rfl⟩ := h
  refine ⟨ts ++ [t], by simp [h1], ?_⟩
  rw [List.zipWith_append h1.symm]; rfl
theorem Strs.length {vs ls} (h : Strs vs ls) : vs.length = ls.length := by
  obtain ⟨ts, h1, rfl⟩ := h
  simp [h1]
theorem Strs.get {vs ls} (h : Strs vs ls) {i : Nat} {v : Value} (hv : vs[i]? = some v) : ∃ l t, ls[i]? = some l ∧ v = .str (S l) t := by
  obtain ⟨ts, h1, rfl⟩ := h
  rw [List.getElem?_zipWith] at hv
  cases hl : ls[i]? with
  | none => rw [hl] at hv; cases ht : ts[i]? <;> rw [ht] at hv <;> cases hv
  | some l =>
    cases ht : ts[i]? with
    | none => rw [hl, ht] at hv; cases hv
    | some t => rw [hl, ht] at hv; exact ⟨l, t, rfl, (Option.some.inj hv).symm⟩

/-! part C1 -/
theorem Turn.cont {h₀ L it o own s J Q h' tk m₂ news₂} (S : St h₀ L h' m₂ ((it, o) :: (own ++ news₂))) (hJ : J m₂ news₂) : Turn h₀ L it o own s J Q .cont { s with heap := h', toks := tk } := ⟨h', tk, m₂, news₂, rfl, S, hJ⟩
theorem Turn.next {h₀ L it o own s J Q h' tk m₂ news₂} (S : St h₀ L h' m₂ ((it, o) :: (own ++ news₂))) (hJ : J m₂ news₂) : Turn h₀ L it o own s J Q .next { s with heap := h', toks := tk } := ⟨h', tk, m₂, news₂, rfl, S, hJ⟩

theorem yes {c : Prop} [Decidable c] {a b : Prop} (hc : c) (h : a) : if c then a else b := by rw [if_pos hc]; exact h
theorem no {c : Prop} [Decidable c] {a b : Prop} (hc : ¬ c) (h : b) : if c then a else b := by rw [if_neg hc]; exact h
theorem yesB {x : Bool} {a b : Prop} (hc : x = true) (h : a) : if x = true then a else b := yes hc h
theorem noB {x : Bool} {a b : Prop} (hc : x = false) (h : b) : if x = true then a else b := no (by rw [hc]; exact Bool.false_ne_true) h

theorem sign_is {c d : Nat} {x : Str} (hx : x = S [d]) (h : c = d) : ((⟨#[c]⟩ : Str) == x) = true := by subst hx h; exact beq_self_eq_true _
theorem sign_not {c d : Nat} {x : Str} (hx : x = S [d]) (h : c ≠ d) : ((⟨#[c]⟩ : Str) == x) = false := by
  subst hx
  rw [S_one, S_beq]
  simp [h]

/-- parse_http_list's names and its list between the turns -/
structure HJ (r : Addr) (a : H) (m : Locs) (news : Led) : Prop where
  res : m (Str.ofString "res") = some (.ref r)
  part : ∃ t, m (Str.ofString "part") = some (.str (S a.part) t)
  esc : m (Str.ofString "escape") = some (.bool a.esc)
  quo : m (Str.ofString "quote") = some (.bool a.quo)
  led : ∃ vs n, Strs vs a.res ∧ news = [(r, listOf vs.toArray n)]

section
variable {prog : Program} {w : World} {A : Around} {E : Value → Shared → Prop} {s : Shared} {mg mb : Locs} {Q : Value → Shared → Prop}

set_option maxHeartbeats 4000000 in
theorem http {f : Addr} {z : List Nat} {t : Tok} (G : Gl mg mb s.heap) (hf : FnAt s.heap f (stmtAt 57)) (hd : A.depth < recursionLimit) (hh : A.handled = none)
    (ha : ∀ c ∈ z, c < 128) (hz : z.length ≤ 2 ^ 20)
    (h : ∀ h' tk D n vs, Strs vs (httpList z) → Ext s.heap h' [(D, listOf vs.toArray n)] → Q (.ref D) { s with heap := h', toks := tk }) :
    wpAny (model prog w) A (call (.ref f) [.str (S z) t]) Q E s := by
  have hsl : sizeLine = 16777216 := sizeLine_eq
  refine call_def (binds := [(Str.ofString "s", .str (S z) t)]) hf G.lim hd (fun _ _ _ => rfl) (locs rfl) (fun L cd h₁ tk S₁ => ?_)
  refine wpAny_execs_cons (wpAny_Assign_Name (List_ (wpAny_items_nil (new_list S₁ fun r h₂ S₂ => ?_))))
  refine st_local S₂ fun h₃ tk₃ l₃ S₃ => ?_
  refine wpAny_execs_cons (wpAny_Assign_Name (wpAny_Constant_str (st_local S₃ fun h₄ tk₄ l₄ S₄ => ?_)))
  refine wpAny_execs_cons (wpAny_Assign_two (wpAny_Constant_bool (wpAny_assign_Name (st_local S₄ fun h₅ tk₅ l₅ S₅ => wpAny_assign_Name (st_local S₅ fun h₆ tk₆ l₆ S₆ => ?_)))))
  refine wpAny_execs_cons (wpAny_For (ev_local S₆ rfl ?_))
  refine loop_str (fun i m news => HJ r (H.zero.run (z.take i)) m news) hh (by simpa [S] using ha) S₆ ?_ ?_ ?_
  · exact ⟨rfl, ⟨_, rfl⟩, rfl, rfl, ⟨[], 0, .nil, rfl⟩⟩
  · -- a turn
    intro i c u m₁ news₁ h tk it o hc hJ htk S₀
    have hc' : z[i]? = some c := by simpa [S] using hc
    have hi : i < z.length := (List.getElem?_eq_some_iff.mp hc').1
    have hrun : H.zero.run (z.take (i + 1)) = (H.zero.run (z.take i)).step c := by
      rw [List.take_add_one, hc']; exact H.run_snoc _ _ _
    rw [hrun]
    have hlen := H.run_len (z.take i) H.zero
    rw [List.length_take, Nat.min_eq_left (Nat.le_of_lt hi)] at hlen
    simp only [H.zero, List.length_nil, Nat.zero_add] at hlen
    change (H.run H.zero _).part.length ≤ i ∧ (H.run H.zero _).res.length ≤ i at hlen
    generalize H.zero.run (z.take i) = a at hJ hlen ⊢
    obtain ⟨hres, ⟨tp, hpart⟩, hesc, hquo, ⟨vs, n, hvs, rfl⟩⟩ := hJ
    have hfit : ∀ (x : List Nat) (y : Str), x.length ≤ i → y.length = 1 → (S x).length + y.length ≤ sizeLine := fun x y h1 h2 => by rw [S_length, h2, hsl]; omega
    obtain ⟨res, part, esc, quo⟩ := a
    dsimp only at hpart hesc hquo hvs hlen
    have add1 : S part ++ (⟨#[c]⟩ : Str) = S (part ++ [c]) := S_append _ _
    cases esc with
    | true =>
      refine wpAny_execs_cons (wpAny_If (isTrue_plain (ev_local S₀ hesc (wpAny_truthy_bool (yesB rfl ?_)))))
      refine wpAny_execs_cons (wpAny_AugAssign_Name (ld_local S₀ hpart (ev_local S₀ rfl (iadd_str (fun t' tk' => ?_) (hfit _ _ hlen.1 rfl)))))
      rw [add1]
      refine st_local S₀ fun h₁ tk₁ l₁ S₁ => ?_
      refine wpAny_execs_cons (wpAny_Assign_Name (wpAny_Constant_bool (st_local S₁ fun h₂ tk₂ l₂ S₂ => ?_)))
      refine wpAny_execs_cons (wpAny_Continue ?_)
      exact Turn.cont S₂ ⟨hres, ⟨_, rfl⟩, rfl, hquo, ⟨vs, n, hvs, rfl⟩⟩
    | false =>
      refine wpAny_execs_cons (wpAny_If (isTrue_plain (ev_local S₀ hesc (wpAny_truthy_bool (noB rfl (wpAny_execs_nil ?_))))))
      cases quo with
      | true =>
        refine wpAny_execs_cons (wpAny_If (isTrue_plain (ev_local S₀ hquo (wpAny_truthy_bool (yesB rfl ?_)))))
        by_cases h92 : c = 92
        · refine wpAny_execs_cons (wpAny_If (wpAny_isTrue_Compare1 (ev_local S₀ rfl (wpAny_Constant_str (eq_str (wpAny_truthy_bool (yesB (sign_is (by decide +kernel) h92) ?_)))))))
          refine wpAny_execs_cons (wpAny_Assign_Name (wpAny_Constant_bool (st_local S₀ fun h₂ tk₂ l₂ S₂ => ?_)))
          refine wpAny_execs_cons (wpAny_Continue ?_)
          refine Turn.cont S₂ ?_
          simp only [H.step, h92]
          exact ⟨hres, ⟨_, hpart⟩, rfl, hquo, ⟨vs, n, hvs, rfl⟩⟩
        · refine wpAny_execs_cons (wpAny_If (wpAny_isTrue_Compare1 (ev_local S₀ rfl (wpAny_Constant_str (eq_str (wpAny_truthy_bool (noB (sign_not (by decide +kernel) h92) ?_)))))))
          by_cases h34 : c = 34
          · refine wpAny_execs_cons (wpAny_If (wpAny_isTrue_Compare1 (ev_local S₀ rfl (wpAny_Constant_str (eq_str (wpAny_truthy_bool (yesB (sign_is (by decide +kernel) h34) ?_)))))))
            refine wpAny_execs_cons (wpAny_Assign_Name (wpAny_Constant_bool (st_local S₀ fun h₂ tk₂ l₂ S₂ => ?_)))
            refine wpAny_execs_nil (wpAny_execs_nil ?_)
            refine wpAny_execs_cons (wpAny_AugAssign_Name (ld_local S₂ hpart (ev_local S₂ rfl (iadd_str (fun t' tk' => ?_) (hfit _ _ hlen.1 rfl)))))
            rw [add1]
            refine st_local S₂ fun h₃ tk₃ l₃ S₃ => ?_
            refine wpAny_execs_cons (wpAny_Continue ?_)
            refine Turn.cont S₃ ?_
            simp only [H.step, h34]
            subst h34
            exact ⟨hres, ⟨_, rfl⟩, hesc, rfl, ⟨vs, n, hvs, rfl⟩⟩
          · refine wpAny_execs_cons (wpAny_If (wpAny_isTrue_Compare1 (ev_local S₀ rfl (wpAny_Constant_str (eq_str (wpAny_truthy_bool (noB (sign_not (by decide +kernel) h34) ?_)))))))
            refine wpAny_execs_nil (wpAny_execs_nil ?_)
            refine wpAny_execs_cons (wpAny_AugAssign_Name (ld_local S₀ hpart (ev_local S₀ rfl (iadd_str (fun t' tk' => ?_) (hfit _ _ hlen.1 rfl)))))
            rw [add1]
            refine st_local S₀ fun h₃ tk₃ l₃ S₃ => ?_
            refine wpAny_execs_cons (wpAny_Continue ?_)
            refine Turn.cont S₃ ?_
            simp only [H.step, h92, h34]
            exact ⟨hres, ⟨_, rfl⟩, hesc, hquo, ⟨vs, n, hvs, rfl⟩⟩
      | false =>
        refine wpAny_execs_cons (wpAny_If (isTrue_plain (ev_local S₀ hquo (wpAny_truthy_bool (noB rfl (wpAny_execs_nil ?_))))))
        by_cases h44 : c = 44
        · refine wpAny_execs_cons (wpAny_If (wpAny_isTrue_Compare1 (ev_local S₀ rfl (wpAny_Constant_str (eq_str (wpAny_truthy_bool (yesB (sign_is (by decide +kernel) h44) ?_)))))))
          refine wpAny_execs_cons (wpAny_Expr (MethodCall_ (ev_local S₀ hres (list_method (S₀.get (.tail _ (.head _))) PySem.F.slot_list_append PySem.F.type_list_append ?_))))
          refine callWith_method1 (wpAny_items_cons (ev_local S₀ hpart (wpAny_items_nil ?_)))
          refine list_append S₀.swap (fun h₁ n₁ S₁ => ?_) (by rw [List.size_toArray, hvs.length, hsl]; omega)
          refine wpAny_execs_cons (wpAny_Assign_Name (wpAny_Constant_str (st_local S₁.swap fun h₂ tk₂ l₂ S₂ => ?_)))
          refine wpAny_execs_cons (wpAny_Continue ?_)
          refine Turn.cont (news₂ := [_]) S₂ ?_
          simp only [H.step, h44]
          exact ⟨hres, ⟨_, rfl⟩, hesc, hquo, ⟨_, n₁, hvs.snoc part tp, by simp⟩⟩
        · refine wpAny_execs_cons (wpAny_If (wpAny_isTrue_Compare1 (ev_local S₀ rfl (wpAny_Constant_str (eq_str (wpAny_truthy_bool (noB (sign_not (by decide +kernel) h44) (wpAny_execs_nil ?_))))))))
          by_cases h34 : c = 34
          · refine wpAny_execs_cons (wpAny_If (wpAny_isTrue_Compare1 (ev_local S₀ rfl (wpAny_Constant_str (eq_str (wpAny_truthy_bool (yesB (sign_is (by decide +kernel) h34) ?_)))))))
            refine wpAny_execs_cons (wpAny_Assign_Name (wpAny_Constant_bool (st_local S₀ fun h₂ tk₂ l₂ S₂ => ?_)))
            refine wpAny_execs_nil ?_
            refine wpAny_execs_cons (wpAny_AugAssign_Name (ld_local S₂ hpart (ev_local S₂ rfl (iadd_str (fun t' tk' => ?_) (hfit _ _ hlen.1 rfl)))))
            rw [add1]
            refine st_local S₂ fun h₃ tk₃ l₃ S₃ => wpAny_execs_nil ?_
            refine Turn.next S₃ ?_
            simp only [H.step, h34]
            subst h34
            exact ⟨hres, ⟨_, rfl⟩, hesc, rfl, ⟨vs, n, hvs, rfl⟩⟩
          · refine wpAny_execs_cons (wpAny_If (wpAny_isTrue_Compare1 (ev_local S₀ rfl (wpAny_Constant_str (eq_str (wpAny_truthy_bool (noB (sign_not (by decide +kernel) h34) (wpAny_execs_nil ?_))))))))
            refine wpAny_execs_cons (wpAny_AugAssign_Name (ld_local S₀ hpart (ev_local S₀ rfl (iadd_str (fun t' tk' => ?_) (hfit _ _ hlen.1 rfl)))))
            rw [add1]
            refine st_local S₀ fun h₃ tk₃ l₃ S₃ => wpAny_execs_nil ?_
            refine Turn.next S₃ ?_
            simp only [H.step, h44, h34]
            exact ⟨hres, ⟨_, rfl⟩, hesc, hquo, ⟨vs, n, hvs, rfl⟩⟩
  · -- behind the loop
    intro m₁ news₁ h' tk' hJ S₀
    have hsz : (S z).cps.size = z.length := by simp [S]
    rw [hsz, List.take_length] at hJ
    have hlen := H.run_len z H.zero
    simp only [H.zero, List.length_nil, Nat.zero_add] at hlen
    change (H.run H.zero _).part.length ≤ z.length ∧ (H.run H.zero _).res.length ≤ z.length at hlen
    unfold httpList at h
    have hall := H.out_all z
    generalize H.zero.run z = a at hJ hlen h hall
    obtain ⟨hres, ⟨tp, hpart⟩, hesc, hquo, ⟨vs, n, hvs, rfl⟩⟩ := hJ
    have fin : ∀ (vs : List Value) (n : Nat) (h₂ : Heap) (tk₂ : Nat), Strs vs a.out → St s.heap L h₂ m₁ [(r, listOf vs.toArray n)] → a.out.length ≤ z.length + 1 →
        wpAny (model prog w) (A.deeper (envOf (fnName (stmtAt 57)) (fnScope (stmtAt 57)) L f cd)) (execs ((fnBody (stmtAt 57)).drop 5) (envOf (fnName (stmtAt 57)) (fnScope (stmtAt 57)) L f cd)) (fun fl s' => Q (match fl with | .ret v => v | _ => .none) s') NoE { s with heap := h₂, toks := tk₂ } := by
      intro vs n h₂ tk₂ hvs S₂ hl
      refine wpAny_execs_cons (wpAny_Return_some (comp_list (by decide) rfl (by decide) (ev_local S₂ hres ?_)))
      refine comp_core (fun i ys fz => fz = [] ∧ Strs ys ((a.out.take i).map strip)) hh ⟨_, S₂.head, rfl, n, rfl⟩ (by rw [List.size_toArray, hvs.length, hsl]; omega) ⟨rfl, .nil⟩ (by decide) rfl rfl ?_ ?_
      · rintro C i v ys fz h tk mC D k I o hv ⟨rfl, hys⟩ hx S₃
        obtain ⟨l, t, hl', rfl⟩ := hvs.get (by simpa using hv)
        have hlt : l.length ≤ sizeLine := by have := hall l (List.mem_of_getElem? hl'); rw [hsl]; omega
        refine MethodCall_ (ev_local (env := compEnv _ C _) S₃ hx (GM.strip ?_))
        refine callWith_method0 (SC.strip (fun t' k => ⟨_, _, [], rfl, S₃, rfl, ?_⟩) (by rw [S_length]; exact hlt))
        have e : (a.out.take (i + 1)).map strip = (a.out.take i).map strip ++ [strip l] := by rw [List.take_add_one, hl']; simp
        rw [e, S_of (Txt.strip (S l))]
        exact hys.snoc _ _
      · rintro D k ys fz h₃ tk₃ ⟨rfl, hys⟩ X
        rw [List.size_toArray, hvs.length, List.take_length] at hys
        exact h h₃ tk₃ D k ys hys ((S₂.ext X).leave.sub (by simp))
    by_cases hp : a.part = []
    · refine wpAny_execs_cons (wpAny_If (isTrue_plain (ev_local S₀ hpart (SBL.truthy (by rw [S_length]; omega) (noB (by rw [S_length, hp]; rfl) (wpAny_execs_nil ?_))))))
      have e : a.out = a.res := by simp [H.out, hp]
      exact fin vs n _ _ (e ▸ hvs) S₀ (by rw [e]; omega)
    · refine wpAny_execs_cons (wpAny_If (isTrue_plain (ev_local S₀ hpart (SBL.truthy (by rw [S_length]; omega) (yesB (by rw [S_length]; cases hq : a.part with | nil => exact absurd hq hp | cons _ _ => simp; omega) ?_)))))
      refine wpAny_execs_cons (wpAny_Expr (MethodCall_ (ev_local S₀ hres (list_method S₀.head PySem.F.slot_list_append PySem.F.type_list_append ?_))))
      refine callWith_method1 (wpAny_items_cons (ev_local S₀ hpart (wpAny_items_nil ?_)))
      refine list_append S₀ (fun h₁ n₁ S₁ => wpAny_execs_nil ?_) (by rw [List.size_toArray, hvs.length, hsl]; omega)
      have e : a.out = a.res ++ [a.part] := by simp [H.out, hp]
      have e2 : vs.toArray.push (Value.str (S a.part) tp) = (vs ++ [Value.str (S a.part) tp]).toArray := by simp
      rw [e2] at S₁
      exact fin _ n₁ _ _ (e ▸ hvs.snoc a.part tp) S₁ (by rw [e, List.length_append, List.length_singleton]; omega)
end

/-! part P2 -/
open Builtin Builtin.Str StrLaws

/-! texts: replace -/
def subst (c : Nat) (z : List Nat) (l : List Nat) : List Nat := l.flatMap fun d => if d = c then z else [d]
theorem subst_append (c : Nat) (z a b : List Nat) : subst c z (a ++ b) = subst c z a ++ subst c z b := by simp [subst]
theorem subst_free (c : Nat) (z : List Nat) : ∀ l : List Nat, c ∉ l → subst c z l = l
  | [], _ => rfl
  | d :: r, h => by
    have h1 : d ≠ c := fun e => h (e ▸ List.mem_cons_self ..)
    have h2 := subst_free c z r fun m => h (List.mem_cons_of_mem _ m)
    unfold subst at h2 ⊢
    rw [List.flatMap_cons, h2, if_neg h1]; rfl
theorem subst_join (c : Nat) (z : Str) : ∀ parts : List Str, (∀ p ∈ parts, c ∉ p.cps.toList) → subst c z.cps.toList (Str.join ⟨#[c]⟩ parts).cps.toList = (Str.join z parts).cps.toList
  | [], _ => rfl
  | [p], h => subst_free c _ _ (h p (List.mem_singleton.mpr rfl))
  | p :: q :: r, h => by
    have ih := subst_join c z (q :: r) fun a ha => h a (List.mem_cons_of_mem _ ha)
    show subst c _ (p ++ ⟨#[c]⟩ ++ Str.join ⟨#[c]⟩ (q :: r)).cps.toList = (p ++ z ++ Str.join z (q :: r)).cps.toList
    simp only [Str.cps_append, Array.toList_append]
    rw [subst_append, subst_append, ih, subst_free c _ _ (h p (List.mem_cons_self ..))]
    simp [subst]
theorem replace_S (l z : List Nat) (c : Nat) : Txt.replace (S l) (S [c]) (S z) = S (subst c z l) := by
  have h : Txt.replace (S l) ⟨#[c]⟩ (S z) = Str.join (S z) (Txt.split (S l) ⟨#[c]⟩) := replace_one _ _ _
  have h2 := subst_join c (S z) (Txt.split (S l) ⟨#[c]⟩) (split_free _ c)
  rw [join_split, ← h] at h2
  show Txt.replace (S l) ⟨#[c]⟩ (S z) = _
  rw [S_of (Txt.replace _ _ _), ← h2]
  simp [S]

/-! split at the first sign -/
theorem splitMax_S (k r : List Nat) (c : Nat) (hc : c < 256) (hk : c ∉ k) (ha : ∀ d ∈ k ++ c :: r, d < 256) : Txt.splitMax (S (k ++ c :: r)) (S [c]) 1 = [S k, S r] := by
  have hlen : (S (k ++ c :: r)).length = k.length + (r.length + 1) := by rw [S_length]; simp
  have h1 : (S [c]).length = 1 := rfl
  have k1 : Builtin.Str.strKind (S (k ++ c :: r)) = 1 := by
    unfold Builtin.Str.strKind
    rw [if_pos]
    simp only [S, List.all_toArray, List.all_eq_true, decide_eq_true_eq]
    exact ha
  have k2 : Builtin.Str.strKind (S [c]) = 1 := by
    unfold Builtin.Str.strKind
    rw [if_pos]
    simp [S, hc]
  have hat : ∀ i, At (S (k ++ c :: r)) (S [c]) (S (k ++ c :: r)).length i ↔ (k ++ c :: r)[i]? = some c := fun i => by
    have := subAt_one (S (k ++ c :: r)) c i
    have e : (S (k ++ c :: r)).cps.toList = k ++ c :: r := by simp [S]
    rw [e] at this
    exact this
  have hocc : occurrences (S (k ++ c :: r)) (S [c]) 0 (S (k ++ c :: r)).length 1 = [k.length] := by
    have hl1 := occ_length_le (S (k ++ c :: r)) (S [c]) 0 (S (k ++ c :: r)).length 1
    rcases occ_head (S (k ++ c :: r)) (S [c]) 1 (Nat.le_refl _) with ⟨_, hn⟩ | ⟨i, rest, e, hi, hn⟩
    · exact absurd ((hat k.length).mpr (by simp)) (hn _)
    · rw [e] at hl1 ⊢
      have hr : rest = [] := by
        cases rest with
        | nil => rfl
        | cons _ _ => simp at hl1
      subst hr
      have hik : i = k.length := by
        have h2 := (hat i).mp hi
        rcases Nat.lt_trichotomy i k.length with h | h | h
        · rw [List.getElem?_append_left h] at h2
          exact absurd (List.mem_of_getElem? h2) hk
        · exact h
        · exact absurd ((hat k.length).mpr (by simp)) (hn _ h)
      rw [hik]
  unfold Txt.splitMax
  have hlim : limitOf (S (k ++ c :: r)) 1 = 1 := rfl
  rw [hlim, hocc, h1, hlen, k1, k2]
  rw [if_neg (by simp)]
  rw [if_neg (by simp)]
  rw [partsBetween_eq]
  simp only [partsFrom]
  refine congr (congrArg List.cons ?_) (congrArg (fun x => [x]) ?_)
  · rw [S_of (strSub _ _ _), strSub_toList]
    simp [S]
  · rw [S_of (strSub _ _ _), strSub_toList, hlen]
    have : (k ++ c :: r).drop (k.length + 1) = r := by
      rw [List.drop_append]; simp
    simp only [S]
    rw [this]
    simp
    apply List.take_of_length_le
    omega

/-! a value in its quotes -/
theorem slice_S (t : List Nat) : Txt.slice (S (34 :: (t ++ [34]))) (some 1) (some (-1)) = S t := by
  show sliceText (S (34 :: (t ++ [34]))) (some 1) (some (-1)) = S t
  have hl : (S (34 :: (t ++ [34]))).length = t.length + 2 := by rw [S_length]; simp
  rw [sliceText_neg_hi _ _ (by decide) (by rw [hl]; omega), hl, sliceText_plain (by simp [S]; omega)]
  simp only [S]
  congr 2
  have e1 : ((-1 : Int) + ↑(t.length + 2) - 1).toNat = t.length := by omega
  have e2 : ((1 : Int)).toNat = 1 := rfl
  rw [e1, e2]
  simp
theorem item_first (c : Nat) (r : List Nat) : Txt.item (S (c :: r)) 0 = S [c] := by
  unfold Txt.item Txt.charAt
  rw [at_nonneg (n := c) (by decide) (by simp [S])]
  rfl
theorem item_last (r : List Nat) (c : Nat) : Txt.item (S (r ++ [c])) (-1) = S [c] := by
  unfold Txt.item Txt.charAt
  have hl : (S (r ++ [c])).length = r.length + 1 := by rw [S_length]; simp
  rw [at_neg (n := c) (by decide) (by rw [hl]; omega) (by
    have e : ((-1 : Int) + ↑(S (r ++ [c])).length).toNat = r.length := by rw [hl]; omega
    rw [e]; simp [S])]
  rfl

/-! strip: at most one blank ahead -/
theorem takeWhile_stop1 {p : Nat → Bool} {c : Nat} {r : List Nat} (h : p c = false) : (c :: r).takeWhile p = [] := by simp [h]
theorem strip_S (b : List Nat) (c : Nat) (m : List Nat) (d : Nat) (hb : b = [] ∨ b = [32]) (hc : Unicode.isSpace c = false) (hd : Unicode.isSpace d = false) : strip (b ++ c :: (m ++ [d])) = c :: (m ++ [d]) := by
  have h32 : Unicode.isSpace 32 = true := by decide +kernel
  unfold strip Txt.strip
  rw [PyProof.Rows.stripBy_eq]
  have e : (S (b ++ c :: (m ++ [d]))).cps.toList = b ++ c :: (m ++ [d]) := by simp [S]
  have hlo : stripLo Unicode.isSpace true (S (b ++ c :: (m ++ [d]))) = b.length := by
    unfold stripLo
    rw [if_pos rfl, e]
    rcases hb with rfl | rfl
    · simp [hc]
    · simp [hc, h32]
  have hhi : stripHi Unicode.isSpace true (S (b ++ c :: (m ++ [d]))) b.length = (b ++ c :: (m ++ [d])).length := by
    unfold stripHi
    rw [if_pos rfl, e, S_length, List.drop_left]
    have : (c :: (m ++ [d])).reverse = d :: (m.reverse ++ [c]) := by simp
    rw [this, takeWhile_stop1 hd]
    rfl
  rw [hlo, hhi, strSub_toList, e, List.drop_left]
  exact List.take_of_length_le (by simp)

/-! join -/
def joinL (sep : List Nat) : List (List Nat) → List Nat
  | [] => []
  | [x] => x
  | x :: rest => x ++ sep ++ joinL sep rest
theorem join_S (sep : List Nat) : ∀ ls : List (List Nat), Txt.join (S sep) (ls.map S) = S (joinL sep ls) := by
  intro ls
  unfold Txt.join
  rw [glued_eq_join]
  induction ls with
  | nil => rfl
  | cons x r ih =>
    cases r with
    | nil => rfl
    | cons y t =>
      show S x ++ S sep ++ Str.join (S sep) ((y :: t).map S) = S (x ++ sep ++ joinL sep (y :: t))
      rw [ih, S_append, S_append]

/-! part C2 -/
section
variable {prog : Program} {w : World} {A : Around} {E : Value → Shared → Prop} {s : Shared} {h₀ : Heap} {L : Addr} {m : Locs} {news : Led}

theorem item_last' (t : List Nat) : Txt.item (S (34 :: (t ++ [34]))) (-1) = S [34] := item_last (34 :: t) 34

theorem str_item {value slice : Expr} {x y : Str} {t : Tok} {Q : Value → Shared → Prop} {i : Int} {u : Tok} (hi : fitsSsize i = true) (h1 : -(x.length : Int) ≤ i) (h2 : i < x.length) (e : Txt.item x i = y) (h : Q (.str y s.toks) { s with toks := s.toks + 1 })
    (hs : subscripted slice false (.str x t) (.int i u) = operate [.str x t, .int i u] (getItem (.str x t) (.int i u)) := by with_unfolding_all rfl) (hg : ∀ r, letTemporaryGo value (.str x t) r = pure () := by intro _; with_unfolding_all rfl) :
    wpAny (model prog w) A (subscriptTail value slice (.str x t) (.int i u)) Q E s := item_str hi h1 h2 (fun _ => e ▸ h) hs hg
theorem str_slice {value slice : Expr} {x y : Str} {t : Tok} {Q : Value → Shared → Prop} {i j : Int} {ui uj : Tok} (S : St h₀ L s.heap m news) (e : Txt.slice x (some i) (some j) = y) (hsz : x.length ≤ sizeLine)
    (h : ∀ h' t' k, St h₀ L h' m news → Q (.str y t') { s with heap := h', toks := k })
    (hs : subscripted slice false (.str x t) (.ref s.heap.objs.size) = operate [.ref s.heap.objs.size, .str x t] (getItem (.str x t) (.ref s.heap.objs.size)) := by with_unfolding_all rfl) (hg : ∀ r, letTemporaryGo value (.str x t) r = pure () := by intro _; with_unfolding_all rfl) :
    wpAny (model prog w) A (subscriptTail value slice (.str x t) (.ref s.heap.objs.size)) Q E { s with heap := s.heap.push { cls := .type "slice", data := .fields #[.int i ui, .int j uj, .none] } } :=
  slice_strN_ss S.fr S.nw (fun h' t' k F N => e ▸ h h' t' k ⟨F, N, S.nd⟩) hs hg hsz

theorem nd_cons {d : Addr} {o : Obj} {news : Led} (h : (news.map (·.1)).Nodup) (hl : ∀ p ∈ news, p.1 < d) : (((d, o) :: news).map (·.1)).Nodup := by
  rw [List.map_cons]
  refine List.nodup_cons.mpr ⟨fun hm => ?_, h⟩
  obtain ⟨p, hp, e⟩ := List.mem_map.mp hm
  exact absurd (hl p hp) (by rw [e]; exact Nat.lt_irrefl _)

theorem new_dict {env : Env} {pos : Pos} {Q : Value → Shared → Prop} (S : St h₀ L s.heap m news) (hlim : h₀.NoLimit)
    (k : ∀ d h' o, St h₀ L h' m ((d, o) :: news) → (d == sysModules) = false → o.IsDictOf (PySem.strKind prog w) [] → Q (.ref d) { s with heap := h' }) :
    wpAny (model prog w) A (eval (.Dict [] [] pos) env) Q E s :=
  newDict_K S.fr S.nw hlim fun d h' o F N l lo hs _ _ _ => k d h' o ⟨F, N, nd_cons S.nd l⟩ lo hs

theorem dict_put {d : Addr} {o : Obj} {x y : Str} {t u : Tok} {Q : Unit → Shared → Prop} (S : St h₀ L s.heap m ((d, o) :: news)) (hd : o.IsDictOf (PySem.strKind prog w) [])
    (h : ∀ h' o' tk, 0 < tk → St h₀ L h' m ((d, o') :: news) → o'.IsDictOf (PySem.strKind prog w) [(x, .str y u)] → Q () { s with heap := h', toks := tk }) :
    wpAny (model prog w) A (setItem (.ref d) (.str x t) (.str y u)) Q E s := by
  have hnd := S.nd
  rw [List.map_cons] at hnd
  have hne := (List.nodup_cons.mp hnd).1
  refine setItem_K (knd := PySem.strKind prog w) PyProof.V.same_str (strKind_is _ _ _ _) (PyProof.V.Flat.str y u) S.fr S.nw (UpdF.head fun p hp e => hne (List.mem_map.mpr ⟨p, hp, e⟩)) hd .nil (fun h' o' F N hd' _ => ?_) (by show 0 ≤ _; exact Nat.zero_le _)
  exact h h' o' _ (Nat.succ_pos _) ⟨F, N, hnd⟩ hd'
end

section
variable {prog : Program} {w : World} {A : Around} {E : Value → Shared → Prop} {s : Shared} {mg mb : Locs} {Q : Value → Shared → Prop}

set_option maxHeartbeats 4000000 in
theorem keqv {f la : Addr} {k t : List Nat} {tx : Tok} {n : Nat} (G : Gl mg mb s.heap) (hf : FnAt s.heap f (stmtAt 56)) (hd : A.depth < recursionLimit) (hh : A.handled = none)
    (hla : s.heap.get? la = some (listOf #[.str (S (k ++ 61 :: (34 :: (t ++ [34])))) tx] n)) (hk : 61 ∉ k) (ha : ∀ c ∈ k ++ 61 :: (34 :: (t ++ [34])), c < 128) (hz : (k ++ 61 :: (34 :: (t ++ [34]))).length ≤ 2 ^ 20)
    (h : ∀ h' tk d o u, o.IsDictOf (PySem.strKind prog w) [(S k, .str (S t) u)] → (d == sysModules) = false → Ext s.heap h' [(d, o)] → Q (.ref d) { s with heap := h', toks := tk }) :
    wpAny (model prog w) A (call (.ref f) [.ref la]) Q E s := by
  have hsl : sizeLine = 16777216 := sizeLine_eq
  have hlen : (S (k ++ 61 :: (34 :: (t ++ [34])))).length ≤ 2 ^ 20 := by rw [S_length]; exact hz
  have hlen2 : (34 :: (t ++ [34])).length ≤ 2 ^ 20 := by
    rw [List.length_append] at hz
    rw [List.length_cons (a := 61)] at hz
    omega
  refine call_def (binds := [(Str.ofString "l", .ref la)]) hf G.lim hd (fun _ _ _ => rfl) (locs rfl) (fun L cd h₁ tk S₁ => ?_)
  refine wpAny_execs_cons (wpAny_Assign_Name (new_dict S₁ G.lim fun d h₂ o S₂ hlo hd₂ => ?_))
  refine st_local S₂ fun h₃ tk₃ l₃ S₃ => ?_
  refine wpAny_execs_cons (wpAny_For (ev_local S₃ rfl ?_))
  refine loop_list (own := []) (fun i m news => m (Str.ofString "parsed") = some (.ref d) ∧ ∃ o kvs, news = [(d, o)] ∧ o.IsDictOf (PySem.strKind prog w) kvs ∧ (i = 0 → kvs = []) ∧ (i = 1 → ∃ u, kvs = [(S k, .str (S t) u)])) hh S₃
    (fun h hk' _ => ⟨_, hk' _ _ hla, rfl, n, rfl⟩) ⟨rfl, o, [], rfl, hd₂, fun _ => rfl, fun e => by cases e⟩ ?_ ?_
  · rintro i v m₁ news₁ h tk it oi hi ⟨hp, o, kvs, rfl, hd₁, h0, h1⟩ htk S₀
    have hi0 : i = 0 := by
      have := (Array.getElem?_eq_some_iff.mp hi).1
      have e : (#[Value.str (S (k ++ 61 :: (34 :: (t ++ [34])))) tx] : Array Value).size = 1 := rfl
      omega
    subst hi0
    have hv : v = .str (S (k ++ 61 :: (34 :: (t ++ [34])))) tx := by
      have : some (Value.str (S (k ++ 61 :: (34 :: (t ++ [34])))) tx) = some v := hi
      exact (Option.some.inj this).symm
    subst hv
    obtain rfl := h0 rfl
    refine wpAny_execs_cons (Assign_Tuple (MethodCall_ (ev_local S₀ rfl (GM.split ?_))))
    refine callWith_method1 (wpAny_items_cons (wpAny_Constant_str (wpAny_items_cons (wpAny_Constant_int (wpAny_items_nil ?_)))))
    refine splitN2A (s := ⟨h, _, _, _, _⟩) S₀.fr S₀.nw (by decide +kernel) (by decide) (fun l h₄ tk₄ hl _ _ hlist F₄ N₄ => ?_) (by rw [hsl]; omega)
    have e61 : (Str.ofString "=") = S [61] := by decide +kernel
    rw [e61, splitMax_S k _ 61 (by decide) hk (fun c hc => Nat.lt_trans (ha c hc) (by decide))] at hl
    have S₄ : St s.heap L h₄ _ ((h.objs.size, listOf (strValues l).toArray 0) :: _) := ⟨F₄, N₄, nd_cons S₀.nd fun p hp => get_lt (S₀.nw p hp).1⟩
    obtain ⟨t1, t2, rfl⟩ : ∃ t1 t2, l = [(S k, t1), (S (34 :: (t ++ [34])), t2)] := by
      cases l with
      | nil => simp at hl
      | cons a r =>
        cases r with
        | nil => simp at hl
        | cons b r2 =>
          cases r2 with
          | nil =>
            obtain ⟨a1, a2⟩ := a
            obtain ⟨b1, b2⟩ := b
            simp only [List.map_cons, List.map_nil, List.cons.injEq, and_true] at hl
            exact ⟨a2, b2, by rw [hl.1, hl.2]⟩
          | cons _ _ => simp at hl
    refine kun_list F₄ N₄ hlist hh rfl rfl (fun h₅ F₅ N₅ => ?_)
    have S₅ : St s.heap L h₅ _ _ := ⟨F₅, N₅, S₄.nd⟩
    refine wpAny_assignInOrder_more (wpAny_assign_Name (st_local S₅ fun h₆ tk₆ l₆ S₆ => ?_))
    refine wpAny_assignInOrder_more (wpAny_assign_Name (st_local S₆ fun h₇ tk₇ l₇ S₇ => ?_))
    refine wpAny_assignInOrder_none ?_
    have hlv : (S (34 :: (t ++ [34]))).length = t.length + 2 := by rw [S_length]; simp
    refine wpAny_execs_cons (wpAny_If (wpAny_isTrue_BoolOp (wpAny_allTrue_And_cons (wpAny_isTrue_Compare1 (Subscript_ (ev_local S₇ rfl (wpAny_Constant_int ?_)))))))
    refine str_item (by decide) (by rw [hlv]; omega) (by rw [hlv]; omega) (item_first _ _) ?_
    refine wpAny_Constant_str (eq_str (wpAny_truthy_bool (yesB (by decide +kernel) ?_)))
    refine wpAny_allTrue_And_cons (wpAny_isTrue_Compare1 (Subscript_ (ev_local S₇ rfl (UnaryOp_ (wpAny_Constant_int (neg_int ?_))))))
    refine str_item (by decide) (by rw [hlv]; omega) (by rw [hlv]; omega) (item_last' t) ?_
    refine wpAny_Constant_str (eq_str (wpAny_truthy_bool (yesB (by decide +kernel) (wpAny_allTrue_And_nil ?_))))
    refine yesB rfl ?_
    refine wpAny_execs_cons (wpAny_Assign_Name (Subscript_ (ev_local S₇ rfl (wpAny_Slice ?_))))
    refine wpAny_evalPart_some (wpAny_Constant_int (wpAny_evalPart_some (UnaryOp_ (wpAny_Constant_int (neg_int (wpAny_evalPart_none ?_))))))
    refine str_slice (s := ⟨h₇, _, _, _, _⟩) S₇ (slice_S t) (by rw [hlv, hsl]; simp at hlen2; omega) (fun h₈ t₈ tk₈ S₈ => ?_)
    refine st_local S₈ fun h₉ tk₉ l₉ S₉ => wpAny_execs_nil ?_
    refine wpAny_execs_cons (wpAny_Assign_Subscript (ev_local S₉ rfl (ev_local S₉ hp (ev_local S₉ rfl ?_))))
    have S₁₀ : St s.heap L h₉ _ ((d, o) :: (it, oi) :: []) := (S₉.sub (List.sublist_cons_self _ _)).perm (List.Perm.swap _ _ _)
    refine dict_put S₁₀ hd₁ fun ha oa tka la Sa hda => wpAny_execs_nil ?_
    exact Turn.next (own := []) (news₂ := [(d, oa)]) Sa.swap ⟨hp, oa, _, rfl, hda, (fun e => by cases e), fun _ => ⟨_, rfl⟩⟩
  · rintro m₁ news₁ h' tk' ⟨hp, o, kvs, rfl, hd₁, h0, h1⟩ S₀
    obtain ⟨u, rfl⟩ := h1 rfl
    refine wpAny_execs_cons (wpAny_Return_some (ev_local S₀ hp ?_))
    exact h h' tk' d o u hd₁ hlo S₀.leave
end

/-! part P3 -/
/-! numbers as texts -/
def numText (n : Int) : List Nat := (Str.ofString (toString n)).cps.toList
def NumOk (n : Int) : Prop := -1 ≤ n ∧ n ≤ 100000
theorem S_numText (n : Int) : S (numText n) = Str.ofString (toString n) := (S_of _).symm
theorem num_minus : numText (-1) = [45, 49] := by decide +kernel
theorem num_signs {n : Int} (h : NumOk n) : ∀ c ∈ numText n, c = 45 ∨ (48 ≤ c ∧ c ≤ 57) := by
  by_cases h0 : 0 ≤ n
  · obtain ⟨m, rfl⟩ := Int.eq_ofNat_of_zero_le h0
    intro c hc
    unfold numText at hc
    rw [KIN.signs_num] at hc
    obtain ⟨ch, hch, e⟩ := List.mem_map.mp hc
    have r := digit_range (Nat.isDigit_of_mem_toDigits (by decide) (by decide) hch)
    rw [← e]
    exact .inr r
  · have : n = -1 := by have := h.1; omega
    subst this
    rw [num_minus]
    intro c hc
    simp at hc
    omega
theorem num_ne {n : Int} (h : NumOk n) : numText n ≠ [] := by
  by_cases h0 : 0 ≤ n
  · obtain ⟨m, rfl⟩ := Int.eq_ofNat_of_zero_le h0
    unfold numText
    rw [KIN.signs_num]
    intro e
    have h := toDigits_len_ge 10 m
    rw [List.map_eq_nil_iff.mp e] at h
    exact absurd h (by decide)
  · have : n = -1 := by have := h.1; omega
    subst this
    rw [num_minus]; simp
theorem num_len {n : Int} (h : NumOk n) : (numText n).length ≤ 10 := by
  by_cases h0 : 0 ≤ n
  · have := KT.len_num h0 (by have := h.2; omega)
    simpa [numText, Str.length] using this
  · have : n = -1 := by have := h.1; omega
    subst this
    rw [num_minus]; simp
theorem num_reads {n : Int} (h : NumOk n) : PySem.intText? (S (numText n)) = some n := by
  rw [S_numText]
  by_cases h0 : 0 ≤ n
  · exact KIN.num_reads h0 (by have := h.2; omega)
  · have : n = -1 := by have := h.1; omega
    subst this
    decide +kernel
theorem num_free {n : Int} (h : NumOk n) {d : Nat} (hd : d < 45 ∨ 57 < d) : d ∉ numText n := fun hm => by
  rcases num_signs h d hm with e | e <;> omega
theorem sign_no_space : ∀ c, c = 45 ∨ (48 ≤ c ∧ c ≤ 57) → Unicode.isSpace c = false := by
  intro c hc
  have : c ∈ [45, 48, 49, 50, 51, 52, 53, 54, 55, 56, 57] := by simp; omega
  have all : ∀ d ∈ [45, 48, 49, 50, 51, 52, 53, 54, 55, 56, 57], Unicode.isSpace d = false := by decide +kernel
  exact all c this

/-! escaped texts -/
def esc (l : List Nat) : List Nat := subst 34 [92, 34] (subst 92 [92, 92] l)
def escC (c : Nat) : List Nat := if c = 92 then [92, 92] else if c = 34 then [92, 34] else [c]
theorem esc_cons (c : Nat) (r : List Nat) : esc (c :: r) = escC c ++ esc r := by
  have e : subst 92 [92, 92] (c :: r) = (if c = 92 then [92, 92] else [c]) ++ subst 92 [92, 92] r := by simp [subst]
  unfold esc
  rw [e, subst_append]
  congr 1
  unfold escC
  split
  · simp [subst]
  · split
    · rename_i h; subst h; simp [subst]
    · rename_i h; simp [subst, h]
theorem esc_len (l : List Nat) : (esc l).length ≤ 2 * l.length := by
  induction l with
  | nil => simp [esc, subst]
  | cons c r ih =>
    rw [esc_cons, List.length_append, List.length_cons]
    have : (escC c).length ≤ 2 := by unfold escC; (repeat' split) <;> simp
    omega
theorem subst92_len (l : List Nat) : (subst 92 [92, 92] l).length ≤ 2 * l.length := by
  induction l with
  | nil => simp [subst]
  | cons c r ih =>
    have e : subst 92 [92, 92] (c :: r) = (if c = 92 then [92, 92] else [c]) ++ subst 92 [92, 92] r := by simp [subst]
    rw [e, List.length_append, List.length_cons]
    split <;> simp <;> omega
theorem esc_ascii {l : List Nat} (h : ∀ c ∈ l, c < 128) : ∀ c ∈ esc l, c < 128 := by
  induction l with
  | nil => simp [esc, subst]
  | cons d r ih =>
    intro c hc
    rw [esc_cons] at hc
    rcases List.mem_append.mp hc with hc | hc
    · unfold escC at hc
      have := h d (List.mem_cons_self ..)
      (repeat' split at hc) <;> simp at hc <;> omega
    · exact ih (fun c hc => h c (List.mem_cons_of_mem _ hc)) c hc

/-! what parse_http_list makes of such items -/
theorem run_free {res : List (List Nat)} : ∀ (l : List Nat) (part : List Nat), (∀ c ∈ l, c ≠ 44 ∧ c ≠ 34) → (H.mk res part false false).run l = ⟨res, part ++ l, false, false⟩
  | [], part, _ => by simp [H.run]
  | c :: r, part, h => by
    have hc := h c (List.mem_cons_self ..)
    have ih := run_free (res := res) r (part ++ [c]) fun d hd => h d (List.mem_cons_of_mem _ hd)
    show ((H.mk res part false false).step c).run r = _
    have e : (H.mk res part false false).step c = ⟨res, part ++ [c], false, false⟩ := by simp [H.step, hc.1, hc.2]
    rw [e, ih]; simp
theorem run_esc {res : List (List Nat)} : ∀ (l : List Nat) (part : List Nat), (H.mk res part false true).run (esc l) = ⟨res, part ++ l, false, true⟩
  | [], part => by simp [H.run, esc, subst]
  | c :: r, part => by
    have ih := run_esc (res := res) r (part ++ [c])
    rw [esc_cons, H.run_append]
    have e : (H.mk res part false true).run (escC c) = ⟨res, part ++ [c], false, true⟩ := by
      unfold escC
      split
      · rename_i h; subst h; simp [H.run, H.step]
      · split
        · rename_i h; subst h; simp [H.run, H.step]
        · rename_i h1 h2; simp [H.run, H.step, h1, h2]
    rw [e, ih]; simp
def encP (x : List Nat × List Nat) : List Nat := x.1 ++ 61 :: (34 :: (esc x.2 ++ [34]))
def plainP (x : List Nat × List Nat) : List Nat := x.1 ++ 61 :: (34 :: (x.2 ++ [34]))
theorem run_item {res : List (List Nat)} (x : List Nat × List Nat) (part : List Nat) (h : ∀ c ∈ x.1, c ≠ 44 ∧ c ≠ 34) : (H.mk res part false false).run (encP x) = ⟨res, part ++ plainP x, false, false⟩ := by
  unfold encP plainP
  rw [H.run_append, run_free _ _ h]
  show (H.run _ (esc x.2 ++ [34])) = _
  have e : ((H.mk res (part ++ x.1) false false).step 61).step 34 = ⟨res, part ++ x.1 ++ [61] ++ [34], false, true⟩ := by simp [H.step]
  show (((H.mk res (part ++ x.1) false false).step 61).step 34).run (esc x.2 ++ [34]) = _
  rw [e, H.run_append, run_esc]
  simp [H.run, H.step]
def outs (part : List Nat) : List (List Nat × List Nat) → List (List Nat)
  | [] => []
  | x :: r => (part ++ plainP x) :: outs [32] r
theorem run_items : ∀ (xs : List (List Nat × List Nat)) (res : List (List Nat)) (part : List Nat), xs ≠ [] → (∀ x ∈ xs, ∀ c ∈ x.1, c ≠ 44 ∧ c ≠ 34) →
    ((H.mk res part false false).run (joinL [44, 32] (xs.map encP))).out = res ++ outs part xs
  | [], _, _, h, _ => absurd rfl h
  | [x], res, part, _, h => by
    show ((H.mk res part false false).run (encP x)).out = _
    rw [run_item x part (h x (List.mem_cons_self ..))]
    have : part ++ plainP x ≠ [] := by simp [plainP]
    simp [H.out, outs, this]
  | x :: y :: r, res, part, _, h => by
    have ih := run_items (y :: r) (res ++ [part ++ plainP x]) [32] (by simp) fun z hz => h z (List.mem_cons_of_mem _ hz)
    show ((H.mk res part false false).run (encP x ++ [44, 32] ++ joinL [44, 32] ((y :: r).map encP))).out = _
    rw [H.run_append, H.run_append, run_item x part (h x (List.mem_cons_self ..))]
    have e : (H.mk res (part ++ plainP x) false false).run [44, 32] = ⟨res ++ [part ++ plainP x], [32], false, false⟩ := by simp [H.run, H.step]
    rw [e, ih]
    simp [outs]
theorem strip_outs : ∀ (xs : List (List Nat × List Nat)) (b : List Nat), (b = [] ∨ b = [32]) → (∀ x ∈ xs, ∃ c k, x.1 = c :: k ∧ Unicode.isSpace c = false) → (outs b xs).map strip = xs.map plainP
  | [], _, _, _ => rfl
  | x :: r, b, hb, h => by
    obtain ⟨c, k, e, hc⟩ := h x (List.mem_cons_self ..)
    have ih := strip_outs r [32] (.inr rfl) fun y hy => h y (List.mem_cons_of_mem _ hy)
    show strip (b ++ plainP x) :: _ = plainP x :: _
    rw [ih]
    congr 1
    have e2 : plainP x = c :: ((k ++ 61 :: (34 :: x.2)) ++ [34]) := by unfold plainP; rw [e]; simp
    rw [e2]
    exact strip_S b c _ 34 hb hc (by decide +kernel)
theorem http_items (xs : List (List Nat × List Nat)) (h1 : ∀ x ∈ xs, ∀ c ∈ x.1, c = 45 ∨ (48 ≤ c ∧ c ≤ 57)) (h2 : ∀ x ∈ xs, x.1 ≠ []) : httpList (joinL [44, 32] (xs.map encP)) = xs.map plainP := by
  by_cases he : xs = []
  · subst he; rfl
  · unfold httpList
    have hr := run_items xs [] [] he fun x hx c hc => by have := h1 x hx c hc; omega
    show ((H.mk [] [] false false).run _).out.map strip = _
    rw [hr, List.nil_append]
    refine strip_outs xs [] (.inl rfl) fun x hx => ?_
    cases e : x.1 with
    | nil => exact absurd e (h2 x hx)
    | cons c k => exact ⟨c, k, rfl, sign_no_space c (h1 x hx c (by rw [e]; exact List.mem_cons_self ..))⟩

/-! trees -/
inductive T where
  | leaf (n : Int) (s : List Nat)
  | row (n : Int) (kids : List T)
def T.num : T → Int
  | .leaf n _ => n
  | .row n _ => n
mutual
/-- what stands in a child's quotes -/
def T.text : T → List Nat
  | .leaf _ s => s
  | .row _ kids => joinL [44, 32] (T.items kids)
def T.items : List T → List (List Nat)
  | [] => []
  | t :: r => encP (numText t.num, T.text t) :: T.items r
end
theorem T.items_map : ∀ ts : List T, T.items ts = (ts.map fun t => (numText t.num, T.text t)).map encP
  | [] => by simp [T.items]
  | t :: r => by simp [T.items, T.items_map r]
mutual
/-- each row up to its end marker -/
def T.cut : T → T
  | .leaf n s => .leaf n s
  | .row n kids => .row n (T.cuts kids)
def T.cuts : List T → List T
  | [] => []
  | t :: r => if t.num = 0 then [T.cut t] else T.cut t :: T.cuts r
end
mutual
def T.ok (D : List (PyData × PyData)) : T → Prop
  | .leaf n s => -1 ≤ n ∧ n < 256 ∧ (Spec.lookup (PyData.str (S s)) D).getD (.int n) = .int n ∧ ∀ c ∈ s, c < 128
  | .row n kids => 256 ≤ n ∧ n ≤ 100000 ∧ T.oks D kids
def T.oks (D : List (PyData × PyData)) : List T → Prop
  | [] => True
  | t :: r => T.ok D t ∧ T.oks D r
end
mutual
def T.high : T → Nat
  | .leaf _ _ => 0
  | .row _ kids => T.highs kids + 1
def T.highs : List T → Nat
  | [] => 0
  | t :: r => max (T.high t) (T.highs r)
end
theorem T.oks_mem {D} : ∀ {ts : List T}, T.oks D ts → ∀ t ∈ ts, T.ok D t
  | t :: r, h, u, hu => by
    simp only [T.oks] at h
    rcases List.mem_cons.mp hu with rfl | hu
    · exact h.1
    · exact T.oks_mem h.2 u hu
theorem T.highs_mem : ∀ {ts : List T}, ∀ t ∈ ts, T.high t ≤ T.highs ts
  | t :: r, u, hu => by
    simp only [T.highs]
    rcases List.mem_cons.mp hu with rfl | hu
    · omega
    · have := T.highs_mem (ts := r) u hu; omega
theorem T.ok_num {D} : ∀ {t : T}, T.ok D t → NumOk t.num
  | .leaf n s, h => by simp only [T.ok] at h; exact ⟨h.1, by show n ≤ 100000; omega⟩
  | .row n kids, h => by simp only [T.ok] at h; exact ⟨by show -1 ≤ n; omega, h.2.1⟩

/-- the text of a row is read back as its children's numbers and texts -/
theorem http_text {D} (n : Int) (kids : List T) (h : T.oks D kids) : httpList (T.text (.row n kids)) = kids.map fun t => plainP (numText t.num, T.text t) := by
  simp only [T.text, T.items_map]
  rw [http_items]
  · simp
  · intro x hx c hc
    obtain ⟨t, ht, rfl⟩ := List.mem_map.mp hx
    exact num_signs (T.ok_num (T.oks_mem h t ht)) c hc
  · intro x hx
    obtain ⟨t, ht, rfl⟩ := List.mem_map.mp hx
    exact num_ne (T.ok_num (T.oks_mem h t ht))

/-! part C3 -/
/-! the world that the law's defs see -/
structure Fs where
  (t n e k h b w r u d : Addr)
structure Wd (prog : Program) (w : World) (mg mb : Locs) (D : List (PyData × PyData)) (fs : Fs) (h : Heap) : Prop where
  gl : Gl mg mb h
  fT : FnAt h fs.t (stmtAt 52)
  fN : FnAt h fs.n (stmtAt 53)
  fE : FnAt h fs.e (stmtAt 54)
  fK : FnAt h fs.k (stmtAt 56)
  fH : FnAt h fs.h (stmtAt 57)
  fB : FnAt h fs.b (stmtAt 59)
  fW : FnAt h fs.w (stmtAt 60)
  fR : FnAt h fs.r (stmtAt 61)
  fU : FnAt h fs.u (stmtAt 62)
  tab : StrTab prog w h fs.d D
  gT : mg (Str.ofString "ISTERMINAL") = some (.ref fs.t)
  gN : mg (Str.ofString "ISNONTERMINAL") = some (.ref fs.n)
  gE : mg (Str.ofString "ISEOF") = some (.ref fs.e)
  gK : mg (Str.ofString "parse_keqv_list") = some (.ref fs.k)
  gH : mg (Str.ofString "parse_http_list") = some (.ref fs.h)
  gB : mg (Str.ofString "_law_tree") = some (.ref fs.b)
  gW : mg (Str.ofString "_law_written") = some (.ref fs.w)
  gR : mg (Str.ofString "_law_read") = some (.ref fs.r)
  gU : mg (Str.ofString "_law_until_end") = some (.ref fs.u)
  gD : mg (Str.ofString "EXACT_TOKEN_TYPES") = some (.ref fs.d)
  nt : ∃ u, mg (Str.ofString "NT_OFFSET") = some (.int 256 u)
  em : ∃ u, mg (Str.ofString "ENDMARKER") = some (.int 0 u)
  nStr : mg (Str.ofString "str") = none
  nLen : mg (Str.ofString "len") = none
  nLst : mg (Str.ofString "list") = none
  nInt : mg (Str.ofString "int") = none
  bStr : mb (Str.ofString "str") = some (.type "str")
  bLen : mb (Str.ofString "len") = some (.builtin "len")
  bLst : mb (Str.ofString "list") = some (.type "list")
  bInt : mb (Str.ofString "int") = some (.type "int")
theorem Wd.keeps {prog w mg mb D fs h h'} (W : Wd prog w mg mb D fs h) (hk : ∀ b o, h.get? b = some o → h'.get? b = some o) : Wd prog w mg mb D fs h' :=
  { W with gl := W.gl.keeps hk, fT := W.fT.keeps hk, fN := W.fN.keeps hk, fE := W.fE.keeps hk, fK := W.fK.keeps hk, fH := W.fH.keeps hk, fB := W.fB.keeps hk, fW := W.fW.keeps hk, fR := W.fR.keeps hk, fU := W.fU.keeps hk, tab := TabAt.keep W.tab hk }

/-! trees in the heap -/
abbrev Rl := Addr → Obj → Prop
abbrev InH (h : Heap) : Rl := fun a o => h.get? a = some o
mutual
def Rep (R : Rl) : T → Value → Prop
  | .leaf n s, v => ∃ a t u k, v = .ref a ∧ R a (listOf #[.int n t, .str (S s) u] k)
  | .row n kids, v => ∃ a t vs k, v = .ref a ∧ R a (listOf (Value.int n t :: vs).toArray k) ∧ Reps R kids vs
def Reps (R : Rl) : List T → List Value → Prop
  | [], vs => vs = []
  | t :: ts, vs => ∃ v r, vs = v :: r ∧ Rep R t v ∧ Reps R ts r
end
mutual
theorem Rep.mono {R R' : Rl} (hR : ∀ a o, R a o → R' a o) : ∀ (t : T) (v : Value), Rep R t v → Rep R' t v
  | .leaf n s, v, h => by
    simp only [Rep] at h ⊢
    obtain ⟨a, t, u, k, e, h⟩ := h
    exact ⟨a, t, u, k, e, hR _ _ h⟩
  | .row n kids, v, h => by
    simp only [Rep] at h ⊢
    obtain ⟨a, t, vs, k, e, h, hs⟩ := h
    exact ⟨a, t, vs, k, e, hR _ _ h, Reps.mono hR kids vs hs⟩
theorem Reps.mono {R R' : Rl} (hR : ∀ a o, R a o → R' a o) : ∀ (ts : List T) (vs : List Value), Reps R ts vs → Reps R' ts vs
  | [], vs, h => by simp only [Reps] at h ⊢; exact h
  | t :: ts, vs, h => by
    simp only [Reps] at h ⊢
    obtain ⟨v, r, e, h1, h2⟩ := h
    exact ⟨v, r, e, Rep.mono hR t v h1, Reps.mono hR ts r h2⟩
end
theorem Reps.length {R : Rl} : ∀ {ts : List T} {vs : List Value}, Reps R ts vs → vs.length = ts.length
  | [], vs, h => by simp only [Reps] at h; subst h; rfl
  | t :: ts, vs, h => by
    simp only [Reps] at h
    obtain ⟨v, r, rfl, h1, h2⟩ := h
    simp [Reps.length h2]
theorem Reps.get {R : Rl} : ∀ {ts : List T} {vs : List Value}, Reps R ts vs → ∀ {i : Nat} {v : Value}, vs[i]? = some v → ∃ t, ts[i]? = some t ∧ Rep R t v
  | [], vs, h, i, v, hv => by simp only [Reps] at h; subst h; simp at hv
  | t :: ts, vs, h, i, v, hv => by
    simp only [Reps] at h
    obtain ⟨v', r, rfl, h1, h2⟩ := h
    cases i with
    | zero => simp at hv; subst hv; exact ⟨t, rfl, h1⟩
    | succ i => exact Reps.get h2 (i := i) (by simpa using hv)
theorem Reps.snoc {R : Rl} : ∀ {ts : List T} {vs : List Value} {t : T} {v : Value}, Reps R ts vs → Rep R t v → Reps R (ts ++ [t]) (vs ++ [v])
  | [], vs, t, v, h, hv => by
    simp only [Reps] at h; subst h
    simp only [List.nil_append, Reps]
    exact ⟨v, [], rfl, hv, rfl⟩
  | t' :: ts, vs, t, v, h, hv => by
    simp only [Reps] at h
    obtain ⟨v', r, rfl, h1, h2⟩ := h
    simp only [List.cons_append, Reps]
    exact ⟨v', r ++ [v], rfl, h1, Reps.snoc h2 hv⟩

/-! steps that keep the tokens above nought -/
section
variable {prog : Program} {w : World} {A : Around} {E : Value → Shared → Prop} {s : Shared}
theorem add_S {x y z : Str} {t u : Tok} {Q : Value → Shared → Prop} (h0 : 0 < s.toks) (e : x ++ y = z) (hsz : x.length + y.length ≤ sizeLine) (h : ∀ t' tk, 0 < tk → Q (.str z t') { s with toks := tk }) :
    wpAny (model prog w) A (binaryOp .Add (.str x t) (.str y u)) Q E s :=
  wpAny_with_toks (n := 1) h0 (add_str (fun t' tk hn => e ▸ h t' tk hn) hsz)
theorem rep_S {x y z r : Str} {t u v : Tok} {Q : Value → Shared → Prop} (h0 : 0 < s.toks) (hu : 0 < u) (hv : u < v) (hyz : (y == z) = false) (e : Txt.replace x y z = r) (hb : x.length + (x.length + 1) * z.length ≤ 16777216)
    (h : ∀ t' tk, 0 < tk → Q (.str r t') { s with toks := tk }) : wpAny (model prog w) A (call (.builtin "str.replace") [.str x t, .str y u, .str z v]) Q E s :=
  wpAny_with_toks (n := 1) h0 (SC.replace (Nat.ne_of_gt hu) (Nat.ne_of_gt (Nat.lt_trans hu hv)) (Nat.ne_of_lt hv) hyz hb fun t' k hn => e ▸ h t' k hn)
theorem list_slice {h₀ : Heap} {L : Addr} {m : Locs} {news : Led} {value slice : Expr} {l : Addr} {items : Array Value} {vl vu : Value} {lo hi : Option Int} {zs : Array Value} {Q : Value → Shared → Prop} (S : St h₀ L s.heap m news) (hl : s.heap.IsList l items) (pl : IsPart vl lo) (pu : IsPart vu hi)
    (e : slicePick items lo hi none = zs) (hsz : items.size ≤ sizeLine)
    (h : ∀ D h', St h₀ L h' m ((D, listOf zs 0) :: news) → Q (.ref D) { s with heap := h' })
    (hs : subscripted slice false (.ref l) (.ref s.heap.objs.size) = operate [.ref s.heap.objs.size, .ref l] (getItem (.ref l) (.ref s.heap.objs.size)) := by with_unfolding_all rfl) (hg : ∀ r, letTemporaryGo value (.ref l) r = pure () := by intro _; with_unfolding_all rfl) :
    wpAny (model prog w) A (subscriptTail value slice (.ref l) (.ref s.heap.objs.size)) Q E { s with heap := s.heap.push { cls := .type "slice", data := .fields #[vl, vu, .none] } } :=
  slice_list S.fr S.nw hl pl pu (fun h' F N => by subst e; exact h _ h' ⟨F, N, nd_cons S.nd fun p hp => Nat.lt_succ_of_lt (get_lt (S.nw p hp).1)⟩) hs hg hsz
end

theorem esc_ge (l : List Nat) : l.length ≤ (esc l).length := by
  induction l with
  | nil => simp
  | cons c r ih =>
    rw [esc_cons, List.length_append, List.length_cons]
    have : 1 ≤ (escC c).length := by unfold escC; (repeat' split) <;> simp
    omega
theorem joinL_mem {sep : List Nat} : ∀ {ls : List (List Nat)} {x : List Nat}, x ∈ ls → x.length ≤ (joinL sep ls).length
  | [y], x, h => by rw [List.mem_singleton.mp h]; exact Nat.le_refl _
  | y :: z :: r, x, h => by
    show x.length ≤ (y ++ sep ++ joinL sep (z :: r)).length
    rw [List.length_append, List.length_append]
    rcases List.mem_cons.mp h with rfl | h
    · omega
    · have := joinL_mem (sep := sep) h; omega
theorem joinL_sum {sep : List Nat} : ∀ ls : List (List Nat), (ls.map List.length).sum + ls.length * sep.length ≤ (joinL sep ls).length + sep.length
  | [] => by simp
  | [y] => by simp [joinL]
  | y :: z :: r => by
    have ih := joinL_sum (sep := sep) (z :: r)
    show _ ≤ (y ++ sep ++ joinL sep (z :: r)).length + sep.length
    rw [List.length_append, List.length_append]
    simp only [List.map_cons, List.sum_cons, List.length_cons, Nat.add_mul] at ih ⊢
    omega
theorem kid_text {n : Int} {kids : List T} {t : T} (h : t ∈ kids) : (T.text t).length ≤ (T.text (.row n kids)).length := by
  simp only [T.text, T.items_map]
  have hm : encP (numText t.num, T.text t) ∈ (kids.map fun t => (numText t.num, T.text t)).map encP := List.mem_map.mpr ⟨_, List.mem_map.mpr ⟨t, h, rfl⟩, rfl⟩
  have h0 := joinL_mem (sep := [44, 32]) hm
  have h1 := esc_ge (T.text t)
  have h2 : (encP (numText t.num, T.text t)).length = (numText t.num).length + ((esc (T.text t)).length + 3) := by simp [encP]
  omega

/-! part C4 -/
def forBody : Stmt → List Stmt
  | .For _ _ b _ _ => b
  | _ => []
def loopBody (i j : Nat) : List Stmt := forBody ((fnBody (stmtAt i)).getD j (.Pass ⟨0, 0, 0, 0⟩))

section
variable {prog : Program} {w : World} {mg mb : Locs} {D : List (PyData × PyData)} {fs : Fs}

/-- what a call of _law_written gives -/
def Written (prog : Program) (w : World) (mg mb : Locs) (D : List (PyData × PyData)) (fs : Fs) (n : Int) (kids : List T) : Prop :=
  ∀ (A : Around) (E : Value → Shared → Prop) (s : Shared) (v : Value) (Q : Value → Shared → Prop), Wd prog w mg mb D fs s.heap → Rep (InH s.heap) (.row n kids) v → T.oks D kids → A.handled = none → A.depth + T.highs kids < 900 →
    (T.text (.row n kids)).length ≤ 2 ^ 14 → (∀ h' tk u, Ext s.heap h' [] → Q (.str (S (T.text (.row n kids))) u) { s with heap := h', toks := tk }) → wpAny (model prog w) A (call (.ref fs.w) [v]) Q E s

def WJ (r : Addr) (kids : List T) (i : Nat) (m : Locs) (news : Led) : Prop :=
  m (Str.ofString "items") = some (.ref r) ∧ ∃ ss n, Strs ss ((T.items kids).take i) ∧ news = [(r, listOf ss.toArray n)]

theorem zip_vals : ∀ (ls : List (List Nat)) (ts : List Tok), ts.length = ls.length → List.zipWith (fun l t => Value.str (S l) t) ls ts = strValues (List.zipWith (fun l t => (S l, t)) ls ts) ∧ (List.zipWith (fun l t => (S l, t)) ls ts).map (·.1) = ls.map S
  | [], ts, _ => by simp [strValues]
  | l :: ls, [], h => by simp at h
  | l :: ls, t :: ts, h => by
    have ih := zip_vals ls ts (by simpa using h)
    constructor
    · simp only [List.zipWith_cons_cons, strValues, List.map_cons]
      rw [ih.1]; rfl
    · simp only [List.zipWith_cons_cons, List.map_cons]
      rw [ih.2]
theorem join_ok {sep : List Nat} {ls : List (List Nat)} (h : (joinL sep ls).length + sep.length ≤ 16777216) : JoinOk (S sep) (ls.map S) = true := by
  unfold JoinOk
  rw [StrLaws.joinTotal]
  have h1 := joinL_sum (sep := sep) ls
  have e : ((ls.map S).map (·.length)) = ls.map List.length := by simp [S_length]
  rw [e, List.length_map, S_length]
  unfold Builtin.Str.tooLong sizeLine
  simp
  omega
theorem lim900 {n : Nat} (h : n < 900) : n < recursionLimit := by unfold recursionLimit; omega

theorem item_text {kids : List T} {n : Int} {t : T} (h : t ∈ kids) : (encP (numText t.num, T.text t)).length ≤ (T.text (.row n kids)).length := by
  simp only [T.text, T.items_map]
  exact joinL_mem (List.mem_map.mpr ⟨_, List.mem_map.mpr ⟨t, h, rfl⟩, rfl⟩)
theorem items_get {kids : List T} {i : Nat} {t : T} (h : kids[i]? = some t) : (T.items kids).take (i + 1) = (T.items kids).take i ++ [encP (numText t.num, T.text t)] := by
  rw [List.take_add_one]
  congr 1
  rw [T.items_map]
  simp [h]
theorem items_len (kids : List T) : (T.items kids).length = kids.length := by rw [T.items_map]; simp

set_option maxHeartbeats 4000000 in
/-- the end of a turn: the item is put together and kept -/
theorem written_tail {A : Around} {s : Shared} {h₀ : Heap} {Q : Flow → Shared → Prop} {L f it l r : Addr} {cd : Value} {o lo : Obj} {m : Locs} {ss : List Value} {kids : List T} {i n : Nat} {t : T} {h : Heap} {tk : Nat} {tn u : Tok} {nn : Int}
    (St₀ : St h₀ L h m ((it, o) :: ([(l, lo)] ++ [(r, listOf ss.toArray n)]))) (W : Wd prog w mg mb D fs h₀) (hk : kids[i]? = some t) (hok : T.ok D t) (hlen : (T.text (.row nn kids)).length ≤ 2 ^ 14)
    (hi : m (Str.ofString "items") = some (.ref r)) (hn : m (Str.ofString "number") = some (.int t.num tn)) (hx : m (Str.ofString "inside") = some (.str (S (T.text t)) u))
    (hss : Strs ss ((T.items kids).take i)) :
    wpAny (model prog w) A (execs ((loopBody 60 1).drop 1) (envOf (fnName (stmtAt 60)) (fnScope (stmtAt 60)) L f cd)) (Turn h₀ L it o [(l, lo)] s (WJ r kids (i + 1)) Q) NoE { s with heap := h, toks := tk } := by
  have hsl : sizeLine = 16777216 := sizeLine_eq
  have hmem : t ∈ kids := List.mem_of_getElem? hk
  have hnum := T.ok_num hok
  have hl1 := kid_text (n := nn) hmem
  have hl2 := item_text (n := nn) hmem
  have he : (encP (numText t.num, T.text t)).length = (numText t.num).length + ((esc (T.text t)).length + 3) := by simp [encP]
  have hs92 := subst92_len (T.text t)
  have hnl := num_len hnum
  have hkl : i < kids.length := (List.getElem?_eq_some_iff.mp hk).1
  have hil : kids.length ≤ 2 ^ 14 + 2 := by
    have h1 := joinL_sum (sep := [44, 32]) (T.items kids)
    have h2 : joinL [44, 32] (T.items kids) = T.text (.row nn kids) := by simp [T.text]
    rw [h2, items_len] at h1
    simp at h1
    omega
  have hssl := hss.length
  rw [List.length_take, items_len] at hssl
  refine wpAny_execs_cons (wpAny_Expr (MethodCall_ (ev_local St₀ hi (list_method (St₀.get (.tail _ (.tail _ (.head _)))) PySem.F.slot_list_append PySem.F.type_list_append ?_))))
  refine callWith_method1 (wpAny_items_cons (wpAny_BinOp (wpAny_BinOp (wpAny_BinOp (Call_ (ev_builtin St₀ W.gl.g W.nStr W.gl.b W.bStr ?_))))))
  refine Pv.callWith_type1 (wpAny_items_cons (ev_local St₀ hn (wpAny_items_nil ?_)))
  refine P.str_of_int (shown (N := 2 ^ 1920) (by have := hnum.1; omega) (by have := hnum.2; omega) (Int.le_refl _)) ?_
  refine wpAny_Constant_str (add_S (z := S (numText t.num ++ [61, 34])) (Nat.succ_pos _) ?_ ?_ fun t1 tk1 h1 => ?_)
  · rw [← S_numText, show Str.ofString "=\"" = S [61, 34] from by decide +kernel, S_append]
  · rw [← S_numText, S_length, show Str.ofString "=\"" = S [61, 34] from by decide +kernel, S_length, hsl]; simp; omega
  refine MethodCall_ (MethodCall_ (ev_local St₀ hx (GM.replace ?_)))
  refine callWith_method1 (wpAny_items_cons (wpAny_Constant_str (wpAny_items_cons (wpAny_Constant_str (wpAny_items_nil ?_)))))
  refine rep_S (r := S (subst 92 [92, 92] (T.text t))) (Nat.succ_pos _) h1 (Nat.lt_succ_self _) (by decide +kernel) ?_ ?_ fun t2 tk2 h2 => ?_
  · rw [show Str.ofString "\\" = S [92] from by decide +kernel, show Str.ofString "\\\\" = S [92, 92] from by decide +kernel]; exact replace_S _ _ _
  · rw [show Str.ofString "\\\\" = S [92, 92] from by decide +kernel, S_length, S_length]; simp; omega
  refine GM.replace ?_
  refine callWith_method1 (wpAny_items_cons (wpAny_Constant_str (wpAny_items_cons (wpAny_Constant_str (wpAny_items_nil ?_)))))
  refine rep_S (r := S (esc (T.text t))) (Nat.succ_pos _) h2 (Nat.lt_succ_self _) (by decide +kernel) ?_ ?_ fun t3 tk3 h3 => ?_
  · rw [show Str.ofString "\"" = S [34] from by decide +kernel, show Str.ofString "\\\"" = S [92, 34] from by decide +kernel]; exact replace_S _ _ _
  · rw [show Str.ofString "\\\"" = S [92, 34] from by decide +kernel, S_length, S_length]; simp; omega
  refine add_S (z := S (numText t.num ++ [61, 34] ++ esc (T.text t))) h3 (S_append _ _) (by rw [S_length, S_length, hsl]; simp; omega) fun t4 tk4 h4 => ?_
  refine wpAny_Constant_str (add_S (z := S (encP (numText t.num, T.text t))) (Nat.succ_pos _) ?_ ?_ fun t5 tk5 h5 => ?_)
  · rw [show Str.ofString "\"" = S [34] from by decide +kernel, S_append]; simp [encP]
  · rw [show Str.ofString "\"" = S [34] from by decide +kernel, S_length, S_length, hsl]; simp; omega
  refine wpAny_items_nil ?_
  have St₁ : St h₀ L h m ((r, listOf ss.toArray n) :: [(it, o), (l, lo)]) := St₀.perm (by
    show List.Perm [(it, o), (l, lo), (r, listOf ss.toArray n)] _
    exact (List.Perm.cons _ (List.Perm.swap _ _ _)).trans (List.Perm.swap _ _ _))
  refine list_append St₁ (fun h₁ n₁ S₁ => wpAny_execs_nil ?_) (by rw [List.size_toArray, hssl, hsl]; omega)
  have e1 : ss.toArray.push (Value.str (S (encP (numText t.num, T.text t))) t5) = (ss ++ [Value.str (S (encP (numText t.num, T.text t))) t5]).toArray := by simp
  rw [e1] at S₁
  have S₂ := S₁.perm ((List.Perm.swap _ _ _).trans (List.Perm.cons _ (List.Perm.swap _ _ _)))
  exact Turn.next (own := [(l, lo)]) (news₂ := [_]) S₂ ⟨hi, _, n₁, by rw [items_get hk]; exact hss.snoc _ _, rfl⟩

set_option maxHeartbeats 4000000 in
theorem written_row {n : Int} {kids : List T} (IH : ∀ n' kids', T.row n' kids' ∈ kids → Written prog w mg mb D fs n' kids') : Written prog w mg mb D fs n kids := by
  intro A E s v Q W hrep hok hh hdep hlen h
  have hsl : sizeLine = 16777216 := sizeLine_eq
  simp only [Rep] at hrep
  obtain ⟨a, tn, vs, ka, rfl, ha, hvs⟩ := hrep
  have hvl := hvs.length
  have hil : kids.length ≤ 2 ^ 14 + 2 := by
    have h1 := joinL_sum (sep := [44, 32]) (T.items kids)
    have h2 : joinL [44, 32] (T.items kids) = T.text (.row n kids) := by simp [T.text]
    rw [h2, items_len] at h1
    simp at h1
    omega
  refine call_def (binds := [(Str.ofString "node", .ref a)]) W.fW W.gl.lim (lim900 (by omega)) (fun _ _ _ => rfl) (locs rfl) (fun L cd h₁ tk S₁ => ?_)
  refine wpAny_execs_cons (wpAny_Assign_Name (List_ (wpAny_items_nil (new_list S₁ fun r h₂ S₂ => ?_))))
  refine st_local S₂ fun h₃ tk₃ l₃ S₃ => ?_
  refine wpAny_execs_cons (wpAny_For (Subscript_ (ev_local S₃ rfl (wpAny_Slice ?_))))
  refine wpAny_evalPart_some (wpAny_Constant_int (wpAny_evalPart_none (wpAny_evalPart_none ?_)))
  refine list_slice (s := ⟨h₃, _, _, _, _⟩) (zs := vs.toArray) S₃ ⟨_, S₃.fr.keep _ _ ha, rfl, ka, rfl⟩ (IsPart.int 1 _) .none ?_ ?_ fun l h₄ S₄ => ?_
  · exact (slicePick_from' _ 1).trans (by simp)
  · rw [List.size_toArray, List.length_cons, hvl, hsl]; omega
  refine loop_list (own := [(l, listOf vs.toArray 0)]) (news := [(r, listOf ([] : List Value).toArray 0)]) (WJ r kids) hh S₄ (fun h _ ho => ⟨_, ho _ (.head _), rfl, 0, rfl⟩) ⟨rfl, [], 0, .nil, rfl⟩ ?_ ?_
  · rintro i v m₁ news₁ h₅ tk₅ it o hv ⟨hi, ss, k, hss, rfl⟩ htk S₀
    obtain ⟨t, ht, hrep⟩ := hvs.get (i := i) (v := v) (by simpa using hv)
    have hmem := List.mem_of_getElem? ht
    have hokt := T.oks_mem hok t hmem
    have hhi := T.highs_mem t hmem
    cases t with
    | leaf n' s' =>
      simp only [Rep] at hrep
      obtain ⟨a', t1, t2, k', rfl, ha'⟩ := hrep
      have hokl := hokt
      simp only [T.ok] at hokl
      have lst : ∀ {hx : Heap}, (∀ b o, s.heap.get? b = some o → hx.get? b = some o) → hx.IsList a' #[.int n' t1, .str (S s') t2] := fun hk => ⟨_, hk _ _ ha', rfl, k', rfl⟩
      refine wpAny_execs_cons (wpAny_If (wpAny_isTrue_Compare1 (Subscript_ (ev_local S₀ rfl (wpAny_Constant_int (item_list (lst S₀.fr.keep) (by decide) (by decide) rfl ?_))))))
      refine wpAny_Constant_int (gt_int (wpAny_truthy_bool (noB (decide_eq_false (by omega)) ?_)))
      refine wpAny_execs_cons (wpAny_Assign_Name (MethodCall_ (ev_global S₀ W.gl.g W.gD (getMethod_strTab_get (TabAt.keep W.tab S₀.fr.keep) ?_))))
      refine callWith_method1 (wpAny_items_cons (Subscript_ (ev_local S₀ rfl (wpAny_Constant_int (item_list (lst S₀.fr.keep) (by decide) (by decide) rfl ?_)))))
      refine wpAny_items_cons (Subscript_ (ev_local S₀ rfl (wpAny_Constant_int (item_list (lst S₀.fr.keep) (by decide) (by decide) rfl (wpAny_items_nil ?_)))))
      refine call_get2_strTab (TabAt.keep W.tab S₀.fr.keep) (PyProof.V.Flat.int n' t1) fun v hv => ?_
      rw [hokl.2.2.1] at hv
      obtain ⟨tv, rfl⟩ : ∃ tv, v = .int n' tv := by have hv' := hv s.heap; cases hv'; exact ⟨_, rfl⟩
      refine st_local S₀ fun h₆ tk₆ l₆ S₆ => ?_
      refine wpAny_execs_cons (wpAny_Assign_Name (Subscript_ (ev_local S₆ rfl (wpAny_Constant_int (item_list (lst S₆.fr.keep) (by decide) (by decide) rfl ?_)))))
      refine st_local S₆ fun h₇ tk₇ l₇ S₇ => wpAny_execs_nil ?_
      exact written_tail (t := .leaf n' s') (nn := n) S₇ W ht hokt hlen hi rfl rfl hss
    | row n' kids' =>
      have hrow := hrep
      simp only [Rep] at hrep
      obtain ⟨a', t1, vs', k', rfl, ha', hvs'⟩ := hrep
      have hokl := hokt
      simp only [T.ok] at hokl
      simp only [T.high] at hhi
      have lst : ∀ {hx : Heap}, (∀ b o, s.heap.get? b = some o → hx.get? b = some o) → hx.IsList a' (Value.int n' t1 :: vs').toArray := fun hk => ⟨_, hk _ _ ha', rfl, k', rfl⟩
      refine wpAny_execs_cons (wpAny_If (wpAny_isTrue_Compare1 (Subscript_ (ev_local S₀ rfl (wpAny_Constant_int (item_list (lst S₀.fr.keep) (by decide) (by decide) rfl ?_))))))
      refine wpAny_Constant_int (gt_int (wpAny_truthy_bool (yesB (decide_eq_true (by omega)) ?_)))
      refine wpAny_execs_cons (wpAny_Assign_Name (Subscript_ (ev_local S₀ rfl (wpAny_Constant_int (item_list (lst S₀.fr.keep) (by decide) (by decide) rfl ?_)))))
      refine st_local S₀ fun h₆ tk₆ l₆ S₆ => ?_
      refine wpAny_execs_cons (wpAny_Assign_Name (Call_ (ev_global S₆ W.gl.g W.gW ?_)))
      refine call_with ((W.keeps S₆.fr.keep).fW) (wpAny_items_cons (ev_local S₆ rfl (wpAny_items_nil ⟨fun _ e => e, ?_⟩)))
      refine IH n' kids' hmem _ _ _ _ _ (W.keeps S₆.fr.keep) (Rep.mono (fun _ _ e => S₆.fr.keep _ _ e) _ _ hrow) hokl.2.2 hh (by show A.depth + 1 + _ < 900; omega) (Nat.le_trans (kid_text (n := n) hmem) hlen) fun h₇ tk₇ u₇ X₇ => ?_
      refine st_local (S₆.ext X₇) fun h₈ tk₈ l₈ S₈ => wpAny_execs_nil ?_
      exact written_tail (t := .row n' kids') (nn := n) S₈ W ht hokt hlen hi rfl rfl hss
  · rintro m₁ news₁ h₅ tk₅ ⟨hi, ss, k, hss, rfl⟩ S₀
    rw [List.size_toArray, hvl, ← items_len, List.take_length] at hss
    obtain ⟨ts, hts, rfl⟩ := hss
    refine wpAny_execs_cons (wpAny_Return_some (MethodCall_ (wpAny_Constant_str (GM.join ?_))))
    refine callWith_method1 (wpAny_items_cons (ev_local S₀ hi (wpAny_items_nil ?_)))
    obtain ⟨e1, e2⟩ := zip_vals _ _ hts
    have htx : joinL [44, 32] (T.items kids) = T.text (.row n kids) := by simp [T.text]
    have esep : Str.ofString ", " = S [44, 32] := by decide +kernel
    refine SC.join (texts := (T.items kids).map S) (l := List.zipWith (fun l t => (S l, t)) (T.items kids) ts) ⟨_, S₀.get (.tail _ (.head _)), rfl, k, by rw [← e1]⟩ e2 ?_ fun t' tk' => ?_
    · rw [esep]; exact join_ok (by rw [htx]; simp; omega)
    · have e3 : Txt.join (Str.ofString ", ") ((T.items kids).map S) = S (T.text (.row n kids)) := by rw [esep, join_S, htx]
      rw [e3]
      exact h _ _ _ (S₀.leave.sub (List.nil_sublist _))

mutual
theorem written_all : ∀ t : T, ∀ n kids, t = .row n kids → Written prog w mg mb D fs n kids
  | .leaf _ _, n, kids, e => by cases e
  | .row _ ks, n, kids, e => by
    cases e
    exact written_row fun n' kids' hm => written_kids ks n' kids' hm
theorem written_kids : ∀ (ts : List T) (n : Int) (kids : List T), T.row n kids ∈ ts → Written prog w mg mb D fs n kids
  | [], _, _, h => by simp at h
  | t :: r, n, kids, h => by
    rcases List.mem_cons.mp h with e | h
    · exact written_all t n kids e.symm
    · exact written_kids r n kids h
end
theorem written (n : Int) (kids : List T) : Written prog w mg mb D fs n kids := written_all (.row n kids) n kids rfl
end

/-! part C5 -/
theorem Rep.head {R : Rl} : ∀ {t : T} {v : Value}, Rep R t v → ∃ a t1 its k, v = .ref a ∧ R a (listOf its k) ∧ its[0]? = some (.int t.num t1)
  | .leaf n s, v, h => by
    simp only [Rep] at h
    obtain ⟨a, t, u, k, e, h⟩ := h
    exact ⟨a, t, _, k, e, h, rfl⟩
  | .row n kids, v, h => by
    simp only [Rep] at h
    obtain ⟨a, t, vs, k, e, h, hs⟩ := h
    exact ⟨a, t, _, k, e, h, by simp [T.num]⟩
theorem Reps.take {R : Rl} : ∀ (i : Nat) {ts : List T} {vs : List Value}, Reps R ts vs → Reps R (ts.take i) (vs.take i)
  | 0, ts, vs, _ => by simp [Reps]
  | i + 1, [], vs, h => by simp only [Reps] at h; subst h; simp [Reps]
  | i + 1, t :: ts, vs, h => by
    simp only [Reps] at h
    obtain ⟨v, r, rfl, h1, h2⟩ := h
    simp only [List.take_succ_cons, Reps]
    exact ⟨v, r.take i, rfl, h1, Reps.take i h2⟩
theorem cuts_take : ∀ kids : List T, (kids.take ((kids.map T.num ++ [0]).idxOf 0 + 1)).map T.cut = T.cuts kids
  | [] => by simp [T.cuts]
  | t :: r => by
    have ih := cuts_take r
    simp only [T.cuts, List.map_cons, List.cons_append]
    by_cases h : t.num = 0
    · rw [if_pos h, List.idxOf_cons, h]; simp
    · rw [if_neg h, List.idxOf_cons]
      have : (t.num == 0) = false := by simpa using h
      simp [this, ih]
theorem num_weight {n : Int} (h : NumOk n) : PyData.weight (.int n) ≤ 18 := by
  simp only [PyData.weight]
  by_cases h0 : n = 0
  · rw [if_pos (by simp [h0])]; exact Nat.zero_le _
  · rw [if_neg (by simp [h0])]
    have h1 : n.natAbs < 2 ^ 17 := by have := h.1; have := h.2; omega
    have h2 : n.natAbs ≠ 0 := by omega
    have h3 := (Nat.log2_lt h2).mpr h1
    omega
theorem nums_weight : ∀ ns : List Int, (∀ n ∈ ns, NumOk n) → PyData.weightAll (ns.map .int) ≤ 19 * ns.length
  | [], _ => by simp [PyData.weightAll]
  | n :: r, h => by
    have ih := nums_weight r fun m hm => h m (List.mem_cons_of_mem _ hm)
    have := num_weight (h n (List.mem_cons_self ..))
    simp only [List.map_cons, PyData.weightAll, List.length_cons]
    omega
theorem nums_lay {ns : List Int} (h : ∀ n ∈ ns, NumOk n) (hl : ns.length ≤ 2 ^ 15) : PyData.layable0 (.list (ns.map .int)) = true := by
  have hw := nums_weight ns h
  have hs := ke_shaped_ints ns
  unfold SeqAt.shaped at hs
  unfold PyData.layable0
  rw [hs]
  simp only [PyData.weight, Bool.true_and]
  exact decide_eq_true (by omega)

section
variable {prog : Program} {w : World} {A : Around} {E : Value → Shared → Prop} {s : Shared}
theorem list_cat {h₀ : Heap} {L : Addr} {m : Locs} {news : Led} {l b : Addr} {its its2 zs : Array Value} {Q : Value → Shared → Prop} (S : St h₀ L s.heap m news) (h1 : s.heap.IsList l its) (h2 : s.heap.IsList b its2) (e : (its.toList ++ its2.toList).toArray = zs) (hsz : its.size + its2.size ≤ sizeLine)
    (h : ∀ D h', St h₀ L h' m ((D, listOf zs 0) :: news) → Q (.ref D) { s with heap := h' }) : wpAny (model prog w) A (binaryOp .Add (.ref l) (.ref b)) Q E s :=
  add_arrays S.fr S.nw h1 h2 (fun h' F N => by subst e; exact h _ h' ⟨F, N, nd_cons S.nd fun p hp => get_lt (S.nw p hp).1⟩) hsz
end

section
variable {prog : Program} {w : World} {mg mb : Locs} {D : List (PyData × PyData)} {fs : Fs}

abbrev Or' (R : Rl) (fz : Led) : Rl := fun a o => R a o ∨ (a, o) ∈ fz

/-- what a call of _law_until_end gives -/
def Until (prog : Program) (w : World) (mg mb : Locs) (D : List (PyData × PyData)) (fs : Fs) (n : Int) (kids : List T) : Prop :=
  ∀ (A : Around) (E : Value → Shared → Prop) (s : Shared) (v : Value) (Q : Value → Shared → Prop) (R : Rl), Wd prog w mg mb D fs s.heap → (∀ a o, R a o → s.heap.get? a = some o) → Rep R (.row n kids) v → T.oks D kids → A.handled = none → A.depth + T.highs kids < 900 →
    (T.text (.row n kids)).length ≤ 2 ^ 14 → (∀ h' tk r fz, Ext s.heap h' fz → Rep (Or' R fz) (.row n (T.cuts kids)) r → Q r { s with heap := h', toks := tk }) → wpAny (model prog w) A (call (.ref fs.u) [v]) Q E s

set_option maxHeartbeats 4000000 in
theorem until_row {n : Int} {kids : List T} (IH : ∀ n' kids', T.row n' kids' ∈ kids → Until prog w mg mb D fs n' kids') : Until prog w mg mb D fs n kids := by
  intro A E s v Q R W hR hrep hok hh hdep hlen h
  have hsl : sizeLine = 16777216 := sizeLine_eq
  simp only [Rep] at hrep
  obtain ⟨a, tn, vs, ka, rfl, ha, hvs⟩ := hrep
  have ha' := hR _ _ ha
  have hvl := hvs.length
  have hil : kids.length ≤ 2 ^ 14 + 2 := by
    have h1 := joinL_sum (sep := [44, 32]) (T.items kids)
    have h2 : joinL [44, 32] (T.items kids) = T.text (.row n kids) := by simp [T.text]
    rw [h2, items_len] at h1
    simp at h1
    omega
  have z1 : (Value.int n tn :: vs).toArray.size ≤ sizeLine := by rw [List.size_toArray, List.length_cons, hvl, hsl]; omega
  have z2 : vs.toArray.size ≤ sizeLine := by rw [List.size_toArray, hvl, hsl]; omega
  have z3 : ∀ k, (vs.take k).toArray.size ≤ sizeLine := fun k => by rw [List.size_toArray, List.length_take, hvl, hsl]; omega
  have z4 : ∀ (xs : List Value) (v : Value), xs.length ≤ kids.length → xs.toArray.size + [v].toArray.size ≤ sizeLine := fun xs v hx => by rw [List.size_toArray, hsl, List.size_toArray]; simp; omega
  have z5 : ∀ (xs : List Value) (v : Value), xs.length ≤ kids.length → [v].toArray.size + xs.toArray.size ≤ sizeLine := fun xs v hx => by rw [List.size_toArray, hsl, List.size_toArray]; simp; omega
  have z6 : (kids.map T.num ++ [0]).length ≤ 2 ^ 15 := by simp; omega
  refine call_def (binds := [(Str.ofString "node", .ref a)]) W.fU W.gl.lim (lim900 (by omega)) (fun _ _ _ => rfl) (locs rfl) (fun L cd h₁ tk S₁ => ?_)
  -- ends
  refine wpAny_execs_cons (wpAny_Assign_Name (wpAny_BinOp (comp_list (by decide) rfl (by decide) (Subscript_ (ev_local S₁ rfl (wpAny_Slice ?_))))))
  refine wpAny_evalPart_some (wpAny_Constant_int (wpAny_evalPart_none (wpAny_evalPart_none ?_)))
  refine list_slice (s := ⟨h₁, _, _, _, _⟩) (zs := vs.toArray) S₁ ⟨_, S₁.fr.keep _ _ ha', rfl, ka, rfl⟩ (IsPart.int 1 _) .none ?_ ?_ fun l h₂ S₂ => ?_
  · exact (slicePick_from' _ 1).trans (by simp)
  · exact z1
  dsimp only
  refine comp_core (fun i ys fz => fz = [] ∧ IntsAre ys ((kids.take i).map T.num)) hh ⟨_, S₂.head, rfl, 0, rfl⟩ z2 ⟨rfl, .nil⟩ (by decide) rfl rfl ?_ ?_
  · rintro C i v ys fz h tk mC D₁ k I o hv ⟨rfl, hys⟩ hx S₃
    obtain ⟨t, ht, hrt⟩ := hvs.get (i := i) (v := v) (by simpa using hv)
    obtain ⟨a', t1, its, k', rfl, hra, h0⟩ := hrt.head
    refine Subscript_ (ev_local (env := compEnv _ C _) S₃ hx (wpAny_Constant_int ?_))
    refine item_list ⟨_, S₃.fr.keep _ _ (S₂.fr.keep _ _ (hR _ _ hra)), rfl, k', rfl⟩ (by decide) (by decide) h0 ⟨h, _, [], rfl, S₃, rfl, ?_⟩
    have e : (kids.take (i + 1)).map T.num = (kids.take i).map T.num ++ [t.num] := by rw [List.take_add_one, ht]; simp
    rw [e]
    exact hys.append (.cons _ _ .nil)
  rintro D₁ k₁ ys fz h₃ tk₃ ⟨rfl, hys⟩ X₃
  rw [List.size_toArray, hvl, List.take_length] at hys
  have S₃ := S₂.ext X₃
  dsimp only
  refine List_ (wpAny_items_cons (wpAny_Constant_int (wpAny_items_nil (new_list S₃ fun l₄ h₄ S₄ => ?_))))
  have hyl := hys.length
  rw [List.length_map] at hyl
  refine list_cat (zs := (ys ++ [Value.int 0 tk₃]).toArray) S₄ ⟨_, S₄.get (.tail _ (.head _)), rfl, k₁, rfl⟩ ⟨_, S₄.head, rfl, 0, rfl⟩ (by simp) ?_ fun De h₅ S₅ => ?_
  · exact z4 _ _ (Nat.le_of_eq hyl)
  refine st_local S₅ fun h₆ tk₆ l₆ S₆ => ?_
  dsimp only
  -- kept
  have hints : IntsAre (ys ++ [Value.int 0 tk₃]) (kids.map T.num ++ [0]) := hys.append (.cons _ _ .nil)
  have hnums : ∀ m ∈ kids.map T.num ++ [0], NumOk m := by
    intro m hm
    rcases List.mem_append.mp hm with hm | hm
    · obtain ⟨t, ht, rfl⟩ := List.mem_map.mp hm
      exact T.ok_num (T.oks_mem hok t ht)
    · rw [List.mem_singleton.mp hm]; exact ⟨by decide, by decide⟩
  have hct := cuts_take kids
  generalize hidx : (kids.map T.num ++ [0]).idxOf 0 = idx at hct
  refine wpAny_execs_cons (wpAny_Assign_Name (Subscript_ (ev_local S₆ rfl (wpAny_Slice ?_))))
  refine wpAny_evalPart_some (wpAny_Constant_int (wpAny_evalPart_some (wpAny_BinOp (wpAny_Constant_int (MethodCall_ (ev_local S₆ rfl ?_))))))
  refine list_method S₆.head PySem.F.slot_list_index PySem.F.type_list_index ?_
  refine callWith_method1 (wpAny_items_cons (wpAny_Constant_int (wpAny_items_nil ?_)))
  refine index_list_ints ⟨_, S₆.head, rfl, 0, rfl⟩ hints (nums_lay hnums z6) (by simp) ?_
  rw [hidx]
  refine add_int (wpAny_evalPart_none ?_)
  refine list_slice (s := ⟨h₆, _, _, _, _⟩) (zs := (vs.take (idx + 1)).toArray) S₆ ⟨_, S₆.fr.keep _ _ ha', rfl, ka, rfl⟩ (IsPart.int 1 _) (IsPart.int _ _) ?_ ?_ fun l₇ h₇ S₇ => ?_
  · rw [slicePick_plain]
    have e1 : clipAt (Value.int n tn :: vs).toArray.size 1 = 1 := by
      have := clipAt_nat (Value.int n tn :: vs).toArray.size 1
      rw [List.size_toArray, List.length_cons] at this ⊢
      rw [show ((1 : Nat) : Int) = 1 from rfl] at this
      omega
    have e2 : clipAt (Value.int n tn :: vs).toArray.size (2 + (idx : Int)) = min (idx + 2) (vs.length + 1) := by
      have := clipAt_nat (Value.int n tn :: vs).toArray.size (idx + 2)
      rw [List.size_toArray, List.length_cons] at this ⊢
      rw [← this]; congr 1; omega
    simp only [Option.elim, e1, e2]
    congr 1
    simp only [List.drop_succ_cons, List.drop_zero]
    rcases Nat.le_total (idx + 1) vs.length with hle | hle
    · congr 1; omega
    · rw [List.take_of_length_le (by omega), List.take_of_length_le hle]
  · exact z1
  refine st_local S₇ fun h₈ tk₈ l₈ S₈ => ?_
  dsimp only
  -- the result
  refine wpAny_execs_cons (wpAny_Return_some (wpAny_BinOp (List_ (wpAny_items_cons (Subscript_ (ev_local S₈ rfl (wpAny_Constant_int ?_)))))))
  refine item_list ⟨_, S₈.fr.keep _ _ ha', rfl, ka, rfl⟩ (by decide) (by decide) (x := .int n tn) (by simp) (wpAny_items_nil (new_list S₈ fun l₉ h₉ S₉ => ?_))
  refine comp_list (by decide) rfl (by decide) (ev_local S₉ rfl ?_)
  dsimp only
  have W₉ := W.keeps S₉.fr.keep
  have hR₉ : ∀ a o, R a o → h₉.get? a = some o := fun a o e => S₉.fr.keep _ _ (hR a o e)
  refine comp_core (fun i ys fz => Reps (Or' R fz) (((kids.take (idx + 1)).take i).map T.cut) ys) hh ⟨_, S₉.get (.tail _ (.head _)), rfl, 0, rfl⟩ ?_ ?_ (by decide) rfl rfl ?_ ?_
  · exact z3 _
  · simp [Reps]
  · rintro C i v ys fz hc tkc mC D₂ k I o hv hys hx S₃
    have hvt := hvs.take (idx + 1)
    obtain ⟨t, ht, hrt⟩ := hvt.get (i := i) (v := v) (by rw [List.getElem?_toArray] at hv; exact hv)
    have hmem : t ∈ kids := List.mem_of_mem_take (List.mem_of_getElem? ht)
    have hokt := T.oks_mem hok t hmem
    have hhi := T.highs_mem t hmem
    have e : ((kids.take (idx + 1)).take (i + 1)).map T.cut = ((kids.take (idx + 1)).take i).map T.cut ++ [T.cut t] := by rw [List.take_add_one (l := kids.take (idx + 1)), ht]; simp
    obtain ⟨a', t1, its, k', rfl, hra, h0⟩ := hrt.head
    refine wpAny_IfExp (wpAny_isTrue_Compare1 (Subscript_ (ev_local (env := compEnv _ C _) S₃ hx (wpAny_Constant_int ?_))))
    refine item_list ⟨_, S₃.fr.keep _ _ (hR₉ _ _ hra), rfl, k', rfl⟩ (by decide) (by decide) h0 ?_
    refine wpAny_Constant_int (gt_int (wpAny_truthy_bool ?_))
    cases t with
    | leaf n' s' =>
      have hokl := hokt
      simp only [T.ok] at hokl
      refine noB (decide_eq_false (by show ¬ (255 < n'); omega)) (ev_local (env := compEnv _ C _) S₃ hx ⟨hc, _, fz, rfl, S₃, ?_⟩)
      rw [e]
      exact hys.snoc (by rw [T.cut]; exact Rep.mono (fun _ _ e => .inl e) _ _ hrt)
    | row n' kids' =>
      have hokl := hokt
      simp only [T.ok] at hokl
      simp only [T.high] at hhi
      refine yesB (decide_eq_true (by show 255 < n'; omega)) ?_
      have Wc := W₉.keeps S₃.fr.keep
      refine Call_ (ev_global (env := compEnv _ C _) S₃ W₉.gl.g W.gU ?_)
      refine call_with Wc.fU (wpAny_items_cons (ev_local (env := compEnv _ C _) S₃ hx (wpAny_items_nil ⟨fun _ e => e, ?_⟩)))
      refine IH n' kids' hmem _ _ _ _ _ R Wc (fun a o e => S₃.fr.keep _ _ (hR₉ a o e)) hrt hokl.2.2 hh (by show A.depth + 1 + _ < 900; omega) (Nat.le_trans (kid_text (n := n) hmem) hlen) fun h₄ tk₄ r fz' X₄ hr => ?_
      have S₄ := (S₃.ext X₄).perm (List.perm_append_comm.trans (List.Perm.cons _ (List.Perm.cons _ (List.perm_append_comm (l₁ := fz) (l₂ := fz')))))
      refine ⟨h₄, tk₄, fz' ++ fz, rfl, S₄, ?_⟩
      rw [e]
      refine Reps.snoc (Reps.mono (fun a o q => q.elim .inl fun q => .inr (List.mem_append_right _ q)) _ _ hys) ?_
      rw [T.cut]
      exact Rep.mono (fun a o q => q.elim .inl fun q => .inr (List.mem_append_left _ q)) _ _ hr
  · rintro D₂ k₂ zs fz h₁₀ tk₁₀ hzs X₁₀
    have hzl := hzs.length
    have e3 : (kids.take (idx + 1)).take ((vs.take (idx + 1)).toArray.size) = kids.take (idx + 1) := by
      rw [List.size_toArray, List.length_take, hvl]
      exact List.take_of_length_le (by rw [List.length_take]; exact Nat.le_refl _)
    rw [e3, hct] at hzs
    rw [List.length_map, e3, List.length_take] at hzl
    have S₁₀ := S₉.ext X₁₀
    refine list_cat (zs := (Value.int n tn :: zs).toArray) S₁₀ ⟨_, S₁₀.get (List.mem_append_right _ (.head _)), rfl, 0, rfl⟩ ⟨_, S₁₀.head, rfl, k₂, rfl⟩ (by simp) ?_ fun DD h₁₁ S₁₁ => ?_
    · exact z5 _ _ (hzl ▸ Nat.min_le_right _ _)
    refine h h₁₁ tk₁₀ (.ref DD) _ S₁₁.leave ?_
    simp only [Rep]
    refine ⟨DD, tn, zs, 0, rfl, .inr (.head _), Reps.mono (fun a o q => q.elim .inl fun q => .inr ?_) _ _ hzs⟩
    exact .tail _ (List.mem_append_left _ (.tail _ q))

mutual
theorem until_all : ∀ t : T, ∀ n kids, t = .row n kids → Until prog w mg mb D fs n kids
  | .leaf _ _, n, kids, e => by cases e
  | .row _ ks, n, kids, e => by
    cases e
    exact until_row fun n' kids' hm => until_kids ks n' kids' hm
theorem until_kids : ∀ (ts : List T) (n : Int) (kids : List T), T.row n kids ∈ ts → Until prog w mg mb D fs n kids
  | [], _, _, h => by simp at h
  | t :: r, n, kids, h => by
    rcases List.mem_cons.mp h with e | h
    · exact until_all t n kids e.symm
    · exact until_kids r n kids h
end
theorem until_end (n : Int) (kids : List T) : Until prog w mg mb D fs n kids := until_all (.row n kids) n kids rfl
end

/-! part C6 -/
section
variable {prog : Program} {w : World} {A : Around} {E : Value → Shared → Prop} {s : Shared} {h₀ : Heap} {L : Addr} {m : Locs} {news : Led}

abbrev viewOf (d : Addr) : Obj := { cls := .type "dict_items", data := .fields #[.ref d] }

theorem items_view {d : Addr} {o : Obj} {kvs : List (Str × Value)} {Q : Value → Shared → Prop} (S : St h₀ L s.heap m ((d, o) :: news)) (hd : o.IsDictOf (PySem.strKind prog w) kvs) (lo : (d == sysModules) = false)
    (h : ∀ D h', St h₀ L h' m ((D, viewOf d) :: (d, o) :: news) → Q (.ref D) { s with heap := h' }) : wpAny (model prog w) A (call (.builtin "dict.items") [.ref d]) Q E s :=
  kdx_view S.fr S.nw (.head _) hd lo fun D h' F N l => h D h' ⟨F, N, nd_cons S.nd l⟩

theorem items_method {d : Addr} {o : Obj} {kvs : List (Str × Value)} {pl : Sem Bool} {Q : Value × List Value → Shared → Prop} (S : St h₀ L s.heap m ((d, o) :: news)) (hd : o.IsDictOf (PySem.strKind prog w) kvs)
    (h : Q (.builtin "dict.items", [.ref d]) s) : wpAny (model prog w) A (getMethod (.ref d) (Str.ofString "items") pl) Q E s :=
  kdl_method (knd := PySem.strKind prog w) PySem.F.slot_dict_items PySem.F.type_dict_items S.nw (.head _) hd h

theorem list_view {D d : Addr} {o : Obj} {x : Str} {v : Value} {Q : Value → Shared → Prop} (hh : A.handled = none) (S : St h₀ L s.heap m ((D, viewOf d) :: (d, o) :: news)) (hd : o.IsDictOf (PySem.strKind prog w) [(x, v)])
    (h : ∀ B a t c h' tk, St h₀ L h' m ((a, tupOf #[.str x t, v] 0) :: (B, listOf #[.ref a] c) :: (D, viewOf d) :: (d, o) :: news) → Q (.ref B) { s with heap := h', toks := tk }) :
    wpAny (model prog w) A (call (.type "list") [.ref D]) Q E s := by
  refine kdx_listN (knd := PySem.strKind prog w) (enc := PyData.str) (ps := [(fun t => Value.str x t, v)]) hh S.fr S.nw (.head _) (.tail _ (.head _)) hd (by exact Nat.le_of_ble_eq_true rfl) (fun _ _ h => Value.isStrOf_shape h) rfl fun B lB => ?_
  refine KdxOpen.cons fun a t la _ _ => KdxOpen.nil fun c h' tk _ F N => ?_
  have N' : News h₀ L h' ((a, tupOf #[.str x t, v] 0) :: (B, listOf #[.ref a] c) :: (D, viewOf d) :: (d, o) :: news) := N
  refine h B a t c h' tk ⟨F, N', ?_⟩
  refine nd_cons (nd_cons S.nd lB) fun p hp => ?_
  rcases List.mem_cons.mp hp with rfl | hp
  · exact la
  · exact Nat.lt_trans (lB p hp) la

theorem is_bool {M : Model} {a b : Bool} {Q : Value → Shared → Prop} (h : Q (.bool (a == b)) s) : wpAny M A (compareOp .Is (.bool a) (.bool b)) Q E s := by
  have e : isSame (.bool a) (.bool b) = pure (a == b) := by cases a <;> cases b <;> rfl
  show wpAny M A (do return .bool (← isSame (.bool a) (.bool b))) Q E s
  rw [e]
  exact wpAny_bind (wpAny_pure (wpAny_pure h))

theorem tmp_item {value slice : Expr} {l : Addr} {items : Array Value} {k : Int} {u : Tok} {x : Value} {Q : Value → Shared → Prop} (hl : s.heap.IsList l items) (h0 : 0 ≤ k) (hhi : k < 2 ^ 63) (hx : items[k.toNat]? = some x) (h : Q x s)
    (hs : subscripted slice false (.ref l) (.int k u) = operate [.ref l, .int k u] (getItem (.ref l) (.int k u)) := by with_unfolding_all rfl) :
    wpAny (model prog w) A (subscriptTail value slice (.ref l) (.int k u)) Q E s :=
  tail_any hl.typeIs slot_list_getitem.lookup (wpAny_getItem_list hl h0 hhi hx h) hs
end

section
variable {prog : Program} {w : World} {A : Around} {E : Value → Shared → Prop} {s : Shared} {mg mb : Locs} {Q : Value → Shared → Prop}
theorem is_nonterminal {f : Addr} {n : Int} {t u : Tok} (G : Gl mg mb s.heap) (hf : FnAt s.heap f (stmtAt 53)) (hn : mg (Str.ofString "NT_OFFSET") = some (.int 256 u)) (hd : A.depth < recursionLimit)
    (h : ∀ h' tk, Ext s.heap h' [] → Q (.bool (decide (256 ≤ n))) { s with heap := h', toks := tk }) : wpAny (model prog w) A (call (.ref f) [.int n t]) Q E s := by
  refine call_def (binds := [(Str.ofString "x", .int n t)]) hf G.lim hd (fun _ _ _ => rfl) (locs rfl) (fun L cd h₁ tk S => ?_)
  refine wpAny_execs_cons (wpAny_Return_some (wpAny_Compare1 ?_))
  refine ev_local S rfl (ev_global S G.g hn (ge_int ?_))
  exact h _ _ S.leave
theorem is_eof {f : Addr} {n : Int} {t u : Tok} (G : Gl mg mb s.heap) (hf : FnAt s.heap f (stmtAt 54)) (hn : mg (Str.ofString "ENDMARKER") = some (.int 0 u)) (hd : A.depth < recursionLimit)
    (h : ∀ h' tk, Ext s.heap h' [] → Q (.bool (n == 0)) { s with heap := h', toks := tk }) : wpAny (model prog w) A (call (.ref f) [.int n t]) Q E s := by
  refine call_def (binds := [(Str.ofString "x", .int n t)]) hf G.lim hd (fun _ _ _ => rfl) (locs rfl) (fun L cd h₁ tk S => ?_)
  refine wpAny_execs_cons (wpAny_Return_some (wpAny_Compare1 ?_))
  refine ev_local S rfl (ev_global S G.g hn (eq_int ?_))
  exact h _ _ S.leave
end

/-! the texts are plain -/
theorem joinL_ascii {sep : List Nat} (hs : ∀ c ∈ sep, c < 128) : ∀ {ls : List (List Nat)}, (∀ l ∈ ls, ∀ c ∈ l, c < 128) → ∀ c ∈ joinL sep ls, c < 128
  | [], _, c, h => by simp [joinL] at h
  | [x], hl, c, h => hl x (List.mem_singleton.mpr rfl) c h
  | x :: y :: r, hl, c, h => by
    have h' : c ∈ x ++ sep ++ joinL sep (y :: r) := h
    rcases List.mem_append.mp h' with h | h
    · rcases List.mem_append.mp h with h | h
      · exact hl x (List.mem_cons_self ..) c h
      · exact hs c h
    · exact joinL_ascii hs (fun l hm => hl l (List.mem_cons_of_mem _ hm)) c h
theorem encP_ascii {x : List Nat × List Nat} (h1 : ∀ c ∈ x.1, c < 128) (h2 : ∀ c ∈ x.2, c < 128) : ∀ c ∈ encP x, c < 128 := by
  intro c hc
  unfold encP at hc
  rcases List.mem_append.mp hc with hc | hc
  · exact h1 c hc
  · rcases List.mem_cons.mp hc with rfl | hc
    · decide
    · rcases List.mem_cons.mp hc with rfl | hc
      · decide
      · rcases List.mem_append.mp hc with hc | hc
        · exact esc_ascii h2 c hc
        · rw [List.mem_singleton.mp hc]; decide
theorem plainP_ascii {x : List Nat × List Nat} (h1 : ∀ c ∈ x.1, c < 128) (h2 : ∀ c ∈ x.2, c < 128) : ∀ c ∈ plainP x, c < 128 := by
  intro c hc
  unfold plainP at hc
  rcases List.mem_append.mp hc with hc | hc
  · exact h1 c hc
  · rcases List.mem_cons.mp hc with rfl | hc
    · decide
    · rcases List.mem_cons.mp hc with rfl | hc
      · decide
      · rcases List.mem_append.mp hc with hc | hc
        · exact h2 c hc
        · rw [List.mem_singleton.mp hc]; decide
theorem num_ascii {n : Int} (h : NumOk n) : ∀ c ∈ numText n, c < 128 := fun c hc => by have := num_signs h c hc; omega
mutual
theorem text_ascii {D} : ∀ t : T, T.ok D t → ∀ c ∈ T.text t, c < 128
  | .leaf n s, h => by simp only [T.ok] at h; simp only [T.text]; exact h.2.2.2
  | .row n kids, h => by
    simp only [T.ok] at h
    simp only [T.text]
    exact joinL_ascii (by decide) (items_ascii kids h.2.2)
theorem items_ascii {D} : ∀ ts : List T, T.oks D ts → ∀ l ∈ T.items ts, ∀ c ∈ l, c < 128
  | [], _, l, hl => by simp [T.items] at hl
  | t :: r, h, l, hl => by
    simp only [T.oks] at h
    simp only [T.items] at hl
    rcases List.mem_cons.mp hl with rfl | hl
    · exact encP_ascii (num_ascii (T.ok_num h.1)) (text_ascii t h.1)
    · exact items_ascii r h.2 l hl
end
theorem cuts_all : ∀ kids : List T, (∀ t ∈ kids, t.num ≠ 0) → T.cuts kids = kids.map T.cut
  | [], _ => by simp [T.cuts]
  | t :: r, h => by
    simp only [T.cuts, List.map_cons]
    rw [if_neg (h t (List.mem_cons_self ..)), cuts_all r fun u hu => h u (List.mem_cons_of_mem _ hu)]
theorem cuts_at : ∀ (kids : List T) (i : Nat) (t : T), kids[i]? = some t → t.num = 0 → (∀ u ∈ kids.take i, u.num ≠ 0) → T.cuts kids = (kids.take (i + 1)).map T.cut
  | [], i, t, h, _, _ => by simp at h
  | u :: r, 0, t, h, h0, _ => by
    simp at h; subst h
    simp [T.cuts, h0]
  | u :: r, i + 1, t, h, h0, hn => by
    have ih := cuts_at r i t (by simpa using h) h0 fun v hv => hn v (by simp [hv])
    simp only [T.cuts]
    rw [if_neg (hn u (by simp)), ih]; simp

/-! part C7 -/
section
variable {prog : Program} {w : World} {mg mb : Locs} {D : List (PyData × PyData)} {fs : Fs}

abbrev InL (fz : Led) : Rl := fun a o => (a, o) ∈ fz

/-- what a call of _law_read gives -/
def ReadOk (prog : Program) (w : World) (mg mb : Locs) (D : List (PyData × PyData)) (fs : Fs) (kids : List T) : Prop :=
  ∀ (A : Around) (E : Value → Shared → Prop) (s : Shared) (n : Int) (tn u : Tok) (Q : Value → Shared → Prop), Wd prog w mg mb D fs s.heap → T.oks D kids → A.handled = none → A.depth + T.highs kids < 890 →
    (T.text (.row 0 kids)).length ≤ 2 ^ 14 → (∀ h' tk r fz, Ext s.heap h' fz → Rep (InL fz) (.row n (T.cuts kids)) r → Q r { s with heap := h', toks := tk }) →
    wpAny (model prog w) A (call (.ref fs.r) [.int n tn, .str (S (T.text (.row 0 kids))) u]) Q E s

/-- between the turns: the row so far -/
def RJ (nd : Addr) (n : Int) (tn : Tok) (kids : List T) (i : Nat) (m : Locs) (news : Led) : Prop :=
  m (Str.ofString "node") = some (.ref nd) ∧ (∀ t ∈ kids.take i, t.num ≠ 0) ∧ ∃ ys k fz, news = (nd, listOf (Value.int n tn :: ys).toArray k) :: fz ∧ Reps (InL fz) ((kids.take i).map T.cut) ys

theorem dec_yes {p : Prop} [Decidable p] (h : p) : (decide p == true) = true := by rw [decide_eq_true h]; rfl
theorem dec_no {p : Prop} [Decidable p] (h : ¬ p) : (decide p == true) = false := by rw [decide_eq_false h]; rfl
theorem FnAt.same {h₀ h h' : Heap} {f : Addr} {st : Stmt} (x : FnAt h₀ f st) (k1 : ∀ b o, h₀.get? b = some o → h.get? b = some o) (k2 : ∀ b o, h₀.get? b = some o → h'.get? b = some o) : ∀ o, h.get? f = some o → h'.get? f = some o := by
  obtain ⟨o, _, _, _, ho, _⟩ := x
  intro o' e
  rw [k1 _ _ ho] at e
  cases e
  exact k2 _ _ ho

theorem row_text (n n' : Int) (kids : List T) : T.text (.row n kids) = T.text (.row n' kids) := by simp only [T.text]

set_option maxHeartbeats 4000000 in
/-- the last test of a turn: an end marker, or on -/
theorem read_tail {A : Around} {s : Shared} {h₀ : Heap} {Q : Flow → Shared → Prop} {L f it l nd : Addr} {cd : Value} {o lo : Obj} {m : Locs} {ys : List Value} {fz : Led} {kids : List T} {i k : Nat} {t : T} {h : Heap} {tk : Nat} {n : Int} {tn : Tok}
    (S₀ : St h₀ L h m ((it, o) :: ([(l, lo)] ++ ((nd, listOf (Value.int n tn :: ys).toArray k) :: fz)))) (W : Wd prog w mg mb D fs h₀) (ht : kids[i]? = some t) (hd : A.depth < recursionLimit)
    (hnd : m (Str.ofString "node") = some (.ref nd)) (hkd : ∃ tkd, m (Str.ofString "kind") = some (.int t.num tkd)) (hno : ∀ u ∈ kids.take i, u.num ≠ 0) (hys : Reps (InL fz) ((kids.take (i + 1)).map T.cut) ys)
    (hQ : ∀ h' tk' m' k' ys' fz', m' (Str.ofString "node") = some (.ref nd) → St h₀ L h' m' ((nd, listOf (Value.int n tn :: ys').toArray k') :: fz') → Reps (InL fz') (T.cuts kids) ys' → Q .next { s with heap := h', toks := tk' }) :
    wpAny (model prog w) A (execs ((loopBody 61 1).drop 4) (envOf (fnName (stmtAt 61)) (fnScope (stmtAt 61)) L f cd)) (Turn h₀ L it o [(l, lo)] s (RJ nd n tn kids (i + 1)) Q) NoE { s with heap := h, toks := tk } := by
  obtain ⟨ue, hue⟩ := W.em
  obtain ⟨tkd, hkd⟩ := hkd
  have Wh := W.keeps S₀.fr.keep
  refine wpAny_execs_cons (wpAny_If (wpAny_isTrue_Compare1 (Call_ (ev_global S₀ W.gl.g W.gE ?_))))
  refine call_with Wh.fE (wpAny_items_cons (ev_local S₀ hkd (wpAny_items_nil ⟨fun _ e => e, ?_⟩)))
  refine is_eof Wh.gl Wh.fE hue hd fun h₁ tk₁ X₁ => ?_
  have S₁ := S₀.ext X₁
  refine wpAny_Constant_bool (is_bool (wpAny_truthy_bool ?_))
  by_cases h0 : t.num = 0
  · refine yesB (by simp [h0]) (wpAny_execs_cons (wpAny_Break ?_))
    have S₂ : St h₀ L h₁ m ((nd, listOf (Value.int n tn :: ys).toArray k) :: fz) := S₁.sub (by simp)
    refine hQ h₁ tk₁ m k ys fz hnd S₂ ?_
    rw [cuts_at kids i t ht h0 hno]
    exact hys
  · refine noB (by simp [h0]) (wpAny_execs_nil (wpAny_execs_nil ?_))
    refine Turn.next (own := [(l, lo)]) S₁ ⟨hnd, ?_, ys, k, fz, rfl, hys⟩
    rw [List.take_add_one, ht]
    intro u hu
    rcases List.mem_append.mp hu with hu | hu
    · exact hno u hu
    · rw [List.mem_singleton.mp hu]; exact h0

set_option maxHeartbeats 4000000 in
theorem read_row {kids : List T} (IH : ∀ n' kids', T.row n' kids' ∈ kids → ReadOk prog w mg mb D fs kids') : ReadOk prog w mg mb D fs kids := by
  intro A E s n tn u Q W hok hh hdep hlen h
  have hsl : sizeLine = 16777216 := sizeLine_eq
  have htxt := text_ascii (D := D) (.row 256 kids) (by simp only [T.ok]; exact ⟨by decide, by decide, hok⟩)
  rw [row_text 256 0] at htxt
  have hhttp := http_text 0 kids hok
  have hil : kids.length ≤ 2 ^ 14 + 2 := by
    have h1 := joinL_sum (sep := [44, 32]) (T.items kids)
    have h2 : joinL [44, 32] (T.items kids) = T.text (.row 0 kids) := by simp [T.text]
    rw [h2, items_len] at h1
    simp at h1
    omega
  have zk : ∀ t ∈ kids, (plainP (numText t.num, T.text t)).length ≤ 2 ^ 20 := fun t ht => by
    have h1 := kid_text (n := 0) ht
    have h2 := num_len (T.ok_num (T.oks_mem hok t ht))
    have h3 : (plainP (numText t.num, T.text t)).length = (numText t.num).length + ((T.text t).length + 3) := by simp [plainP]
    omega
  have zl : ∀ ys : List Value, ys.length ≤ kids.length → (Value.int n tn :: ys).toArray.size ≤ sizeLine := fun ys hy => by rw [List.size_toArray, List.length_cons, hsl]; omega
  have z20 : (T.text (.row 0 kids)).length ≤ 2 ^ 20 := by omega
  have dA : A.depth < recursionLimit := lim900 (by omega)
  have dB : ∀ e, (A.deeper e).depth < recursionLimit := fun e => lim900 (by show A.depth + 1 < 900; omega)
  refine call_def (binds := [(Str.ofString "number", .int n tn), (Str.ofString "header", .str (S (T.text (.row 0 kids))) u)]) W.fR W.gl.lim dA (fun _ _ _ => rfl) (locs rfl) (fun L cd h₁ tk S₁ => ?_)
  try dsimp only
  refine wpAny_execs_cons (wpAny_Assign_Name (List_ (wpAny_items_cons (ev_local S₁ rfl (wpAny_items_nil (new_list S₁ fun nd h₂ S₂ => ?_))))))
  refine st_local S₂ fun h₃ tk₃ l₃ S₃ => ?_
  try dsimp only
  have W₃ := W.keeps S₃.fr.keep
  refine wpAny_execs_cons (wpAny_For (Call_ (ev_global S₃ W.gl.g W.gH ?_)))
  refine call_with W₃.fH (wpAny_items_cons (ev_local S₃ rfl (wpAny_items_nil ⟨fun _ e => e, ?_⟩)))
  refine http W₃.gl W₃.fH (dB _) hh htxt z20 fun h₄ tk₄ Dl kl vs hvs X₄ => ?_
  rw [hhttp] at hvs
  have S₄ := S₃.ext X₄
  try dsimp only
  have hvl := hvs.length
  rw [List.length_map] at hvl
  have fin : ∀ h' tk' m' k' ys' fz', m' (Str.ofString "node") = some (.ref nd) → St s.heap L h' m' ((nd, listOf (Value.int n tn :: ys').toArray k') :: fz') → Reps (InL fz') (T.cuts kids) ys' →
      wpAny (model prog w) (A.deeper (envOf (fnName (stmtAt 61)) (fnScope (stmtAt 61)) L fs.r cd)) (execs ((fnBody (stmtAt 61)).drop 2) (envOf (fnName (stmtAt 61)) (fnScope (stmtAt 61)) L fs.r cd)) (fun fl s' => Q (match fl with | .ret v => v | _ => .none) s') NoE { s with heap := h', toks := tk' } := by
    intro h' tk' m' k' ys' fz' hm' S' hys'
    refine wpAny_execs_cons (wpAny_Return_some (ev_local S' hm' ?_))
    refine h h' tk' (.ref nd) _ S'.leave ?_
    simp only [Rep]
    exact ⟨nd, tn, ys', k', rfl, .head _, Reps.mono (fun a o q => .tail _ q) _ _ hys'⟩
  refine loop_list (own := [(Dl, listOf vs.toArray kl)]) (news := [(nd, listOf (Value.int n tn :: ([] : List Value)).toArray 0)]) (RJ nd n tn kids) hh S₄ (fun h _ ho => ⟨_, ho _ (.head _), rfl, kl, rfl⟩)
    ⟨rfl, by simp, [], 0, [], rfl, by simp [Reps]⟩ ?_ ?_
  · rintro i v m₁ news₁ h₅ tk₅ it o hv ⟨hnd, hno, ys, k, fz, rfl, hys⟩ htk S₀
    obtain ⟨x, tv, hx, rfl⟩ := hvs.get (i := i) (v := v) (by rw [List.getElem?_toArray] at hv; exact hv)
    rw [List.getElem?_map] at hx
    obtain ⟨t, ht, rfl⟩ := Option.map_eq_some_iff.mp hx
    have hmem := List.mem_of_getElem? ht
    have hokt := T.oks_mem hok t hmem
    have hhi := T.highs_mem t hmem
    have hnum := T.ok_num hokt
    have W₅ := W.keeps S₀.fr.keep
    have hyl := hys.length
    rw [List.length_map, List.length_take] at hyl
    have zy : ys.length ≤ kids.length := hyl ▸ Nat.min_le_right _ _
    -- pair
    refine wpAny_execs_cons (wpAny_Assign_Name (Subscript_ (Call_ (ev_builtin S₀ W.gl.g W.nLst W.gl.b W.bLst ?_))))
    refine Pv.callWith_type1 (wpAny_items_cons (MethodCall_ (Call_ (ev_global S₀ W.gl.g W.gK ?_))))
    refine call_with W₅.fK (wpAny_items_cons (List_ (wpAny_items_cons (ev_local S₀ rfl (wpAny_items_nil (new_list S₀ fun la h₆ S₆ => wpAny_items_nil ⟨W.fK.same S₀.fr.keep S₆.fr.keep, ?_⟩))))))
    have W₆ := W.keeps S₆.fr.keep
    refine keqv (k := numText t.num) (t := T.text t) (tx := tv) (n := 0) W₆.gl W₆.fK (dB _) hh S₆.head (num_free hnum (by decide)) (plainP_ascii (x := (numText t.num, T.text t)) (num_ascii hnum) (text_ascii t hokt)) (zk t hmem) fun h₇ tk₇ d od u₇ hdict hlo X₇ => ?_
    have S₇ := S₆.ext X₇
    try dsimp only
    refine items_method S₇ hdict (callWith_method0 (items_view S₇ hdict hlo fun Dv h₈ S₈ => ?_))
    refine wpAny_items_nil (list_view hh S₈ hdict fun B a t₉ c h₉ tk₉ S₉ => ?_)
    refine wpAny_Constant_int (tmp_item ⟨_, S₉.get (.tail _ (.head _)), rfl, c, rfl⟩ (by decide) (by decide) rfl ?_)
    refine st_local S₉ fun h₁₀ tk₁₀ l₁₀ S₁₀ => ?_
    try dsimp only
    have S₁₁ := S₁₀.sub (.cons₂ _ (.cons _ (.cons _ (.cons _ (.cons _ (List.Sublist.refl _))))))
    clear S₁₀ S₉ S₈ S₇ S₆ W₆ W₅ S₄ W₃
    -- kind
    refine wpAny_execs_cons (wpAny_Assign_Name (Call_ (ev_builtin S₁₁ W.gl.g W.nInt W.gl.b W.bInt ?_)))
    refine Pv.callWith_type1 (wpAny_items_cons (Subscript_ (ev_local S₁₁ rfl (wpAny_Constant_int ?_))))
    refine item_tupleT (l := [.str (S (numText t.num)) t₉, .str (S (T.text t)) u₇]) ⟨_, S₁₁.head, rfl, 0, rfl⟩ (by decide) (by decide) (j := 0) rfl rfl (wpAny_items_nil ?_)
    refine KIN.call_text (num_reads hnum) (by rw [S_length]; exact Nat.le_trans (num_len hnum) (by decide)) ?_
    refine st_local S₁₁ fun h₁₂ tk₁₂ l₁₂ S₁₂ => ?_
    try dsimp only
    have W₁₂ := W.keeps S₁₂.fr.keep
    obtain ⟨un, hun⟩ := W.nt
    -- a row?
    refine wpAny_execs_cons (wpAny_If (wpAny_isTrue_Compare1 (Call_ (ev_global S₁₂ W.gl.g W.gN ?_))))
    refine call_with W₁₂.fN (wpAny_items_cons (ev_local S₁₂ rfl (wpAny_items_nil ⟨fun _ e => e, ?_⟩)))
    refine is_nonterminal W₁₂.gl W₁₂.fN hun (dB _) fun h₁₃ tk₁₃ X₁₃ => ?_
    have S₁₃ := S₁₂.ext X₁₃
    try dsimp only
    refine wpAny_Constant_bool (is_bool (wpAny_truthy_bool ?_))
    have W₁₃ := W.keeps S₁₃.fr.keep
    have etake : (kids.take (i + 1)).map T.cut = (kids.take i).map T.cut ++ [T.cut t] := by rw [List.take_add_one, ht]; simp
    cases t with
    | leaf n' s' =>
      have hokl := hokt
      simp only [T.ok] at hokl
      refine noB (dec_no (show ¬ (256 ≤ n') by omega)) (wpAny_execs_nil ?_)
      refine wpAny_execs_cons (wpAny_If (wpAny_isTrue_Compare1 (Call_ (ev_global S₁₃ W.gl.g W.gT ?_))))
      refine call_with W₁₃.fT (wpAny_items_cons (ev_local S₁₃ rfl (wpAny_items_nil ⟨fun _ e => e, ?_⟩)))
      refine is_terminal W₁₃.gl W₁₃.fT hun (dB _) fun h₁₄ tk₁₄ X₁₄ => ?_
      have S₁₄ := S₁₃.ext X₁₄
      try dsimp only
      refine wpAny_Constant_bool (is_bool (wpAny_truthy_bool (yesB (dec_yes (show n' < 256 by omega)) ?_)))
      refine wpAny_execs_cons (wpAny_Expr (MethodCall_ (ev_local S₁₄ hnd (list_method (S₁₄.get (.tail _ (.tail _ (.tail _ (.head _))))) PySem.F.slot_list_append PySem.F.type_list_append ?_))))
      refine callWith_method1 (wpAny_items_cons (List_ (wpAny_items_cons (ev_local S₁₄ rfl (wpAny_items_cons (Subscript_ (ev_local S₁₄ rfl (wpAny_Constant_int ?_))))))))
      refine item_tupleT (l := [.str (S (numText n')) t₉, .str (S s') u₇]) ⟨_, S₁₄.head, rfl, 0, rfl⟩ (by decide) (by decide) (j := 1) rfl rfl (wpAny_items_nil ?_)
      refine new_list S₁₄ fun xl h₁₅ S₁₅ => wpAny_items_nil ?_
      have S₁₆ := S₁₅.perm (List.perm_middle (l₁ := [_, _, _, _]))
      refine list_append S₁₆ (fun h₁₇ k₁₇ S₁₇ => wpAny_execs_nil ?_) (zl ys zy)
      have e1 : (Value.int n tn :: ys).toArray.push (.ref xl) = (Value.int n tn :: (ys ++ [.ref xl])).toArray := by simp
      rw [e1] at S₁₇
      have S₁₈ : St s.heap L h₁₇ _ ((it, o) :: ([(Dl, _)] ++ ((nd, _) :: (xl, _) :: fz))) := (S₁₇.perm ((List.perm_append_comm (l₁ := [_, _]) (l₂ := [_, _, _])).append_right _)).tail
      try dsimp only
      refine' read_tail (ys := ys ++ [.ref xl]) (t := .leaf n' s') S₁₈ W ht (dB _) ?_ ?_ hno ?_ fin
      · exact hnd
      · exact ⟨_, rfl⟩
      rw [etake]
      refine Reps.snoc (Reps.mono (fun a o q => .tail _ q) _ _ hys) ?_
      simp only [T.cut, Rep]
      exact ⟨xl, _, _, 0, rfl, .head _⟩
    | row n' kids' =>
      have hokl := hokt
      simp only [T.ok] at hokl
      simp only [T.high] at hhi
      refine yesB (dec_yes (show 256 ≤ n' by omega)) ?_
      refine wpAny_execs_cons (wpAny_Expr (MethodCall_ (ev_local S₁₃ hnd (list_method (S₁₃.get (.tail _ (.tail _ (.tail _ (.head _))))) PySem.F.slot_list_append PySem.F.type_list_append ?_))))
      refine callWith_method1 (wpAny_items_cons (Call_ (ev_global S₁₃ W.gl.g W.gR ?_)))
      refine call_with W₁₃.fR (wpAny_items_cons (ev_local S₁₃ rfl (wpAny_items_cons (Subscript_ (ev_local S₁₃ rfl (wpAny_Constant_int ?_))))))
      refine item_tupleT (l := [.str (S (numText n')) t₉, .str (S (T.text (.row n' kids'))) u₇]) ⟨_, S₁₃.head, rfl, 0, rfl⟩ (by decide) (by decide) (j := 1) rfl rfl (wpAny_items_nil ⟨fun _ e => e, ?_⟩)
      refine IH n' kids' hmem _ _ _ _ _ _ _ W₁₃ hokl.2.2 hh (by show A.depth + 1 + _ < 890; omega) (by rw [row_text 0 n' kids']; exact Nat.le_trans (kid_text (n := 0) hmem) hlen) fun h₁₄ tk₁₄ r fz' X₁₄ hr => wpAny_items_nil ?_
      have S₁₄ := S₁₃.ext X₁₄
      try dsimp only
      have S₁₅ := S₁₄.perm ((List.perm_append_comm_assoc fz' [_, _, _] _).trans ((List.perm_middle (l₁ := fz') (l₂ := fz)).append_left _))
      have S₁₆ := S₁₅.perm (List.perm_middle (l₁ := [_, _, _]))
      refine list_append S₁₆ (fun h₁₇ k₁₇ S₁₇ => wpAny_execs_nil ?_) (zl ys zy)
      have e1 : (Value.int n tn :: ys).toArray.push r = (Value.int n tn :: (ys ++ [r])).toArray := by simp
      rw [e1] at S₁₇
      have S₁₈ := (S₁₇.perm (List.perm_middle (l₁ := [_, _, _])).symm).tail
      try dsimp only
      have W₁₈ := W.keeps S₁₈.fr.keep
      refine wpAny_execs_cons (wpAny_If (wpAny_isTrue_Compare1 (Call_ (ev_global S₁₈ W.gl.g W.gT ?_))))
      refine call_with W₁₈.fT (wpAny_items_cons (ev_local S₁₈ rfl (wpAny_items_nil ⟨fun _ e => e, ?_⟩)))
      refine is_terminal W₁₈.gl W₁₈.fT hun (dB _) fun h₁₉ tk₁₉ X₁₉ => ?_
      have S₁₉ := S₁₈.ext X₁₉
      try dsimp only
      refine wpAny_Constant_bool (is_bool (wpAny_truthy_bool (noB (dec_no (show ¬ (n' < 256) by omega)) (wpAny_execs_nil ?_))))
      refine' read_tail (ys := ys ++ [r]) (fz := fz' ++ fz) (t := .row n' kids') S₁₉ W ht (dB _) ?_ ?_ hno ?_ fin
      · exact hnd
      · exact ⟨_, rfl⟩
      rw [etake]
      refine Reps.snoc (Reps.mono (fun a o q => List.mem_append_right _ q) _ _ hys) ?_
      simp only [T.cut]
      exact Rep.mono (fun a o q => List.mem_append_left _ q) _ _ hr
  · rintro m₁ news₁ h₅ tk₅ ⟨hnd, hno, ys, k, fz, rfl, hys⟩ S₀
    rw [List.size_toArray, hvl, List.take_length] at hno hys
    rw [← cuts_all kids hno] at hys
    exact fin h₅ tk₅ m₁ k ys fz hnd S₀.tail hys

mutual
theorem read_all : ∀ t : T, ∀ n kids, t = .row n kids → ReadOk prog w mg mb D fs kids
  | .leaf _ _, n, kids, e => by cases e
  | .row _ ks, n, kids, e => by
    cases e
    exact read_row fun n' kids' hm => read_kids ks n' kids' hm
theorem read_kids : ∀ (ts : List T) (n : Int) (kids : List T), T.row n kids ∈ ts → ReadOk prog w mg mb D fs kids
  | [], _, _, h => by simp at h
  | t :: r, n, kids, h => by
    rcases List.mem_cons.mp h with e | h
    · exact read_all t n kids e.symm
    · exact read_kids r n kids h
end
theorem read_ok (kids : List T) : ReadOk prog w mg mb D fs kids := read_all (.row 0 kids) 0 kids rfl
end

/-! part P4 -/
/-! the tree while it is built: open rows, the innermost first -/
abbrev Z := List (Int × List T)
def zadd (t : T) : Z → Z
  | [] => []
  | (n, ks) :: r => (n, ks ++ [t]) :: r
def zpop : Z → Z
  | (n, ks) :: (n2, ks2) :: r => (n2, ks2 ++ [.row n ks]) :: r
  | z => z
def rowNum (p : Nat) : Int := if p % 4 = 0 then 256 else if p % 4 = 1 then 257 else if p % 4 = 2 then 600 else 100000
def leafNum (p : Nat) : Int := if p % 4 = 0 then 1 else if p % 4 = 1 then 3 else if p % 4 = 2 then 255 else -1
def leafTxt (p : Nat) : List Nat := if p / 4 % 4 = 0 then [] else if p / 4 % 4 = 1 then [34] else if p / 4 % 4 = 2 then [92] else [32, 97, 34, 44, 32, 98, 92, 61]
def zstep (W : List (List Nat)) (z : Z) (k : Nat) : Z :=
  if k % 8 = 0 then zpop z
  else if k % 8 < 3 then (if z.length < 4 then (rowNum (k / 8), []) :: z else zadd (.row (rowNum (k / 8)) []) z)
  else if k % 8 < 6 then zadd (.leaf (7 + ((k / 8 : Nat) : Int)) (W.getD (k / 8) [])) z
  else if k % 8 = 6 then zadd (.leaf (leafNum (k / 8)) (leafTxt (k / 8))) z
  else zadd (.leaf 0 []) z
def zclose (last : List T) : Z → T
  | [] => .row 256 last
  | [(n, ks)] => .row n (ks ++ last)
  | (n, ks) :: r => zclose [.row n (ks ++ last)] r
mutual
def T.size : T → Nat
  | .leaf _ _ => 1
  | .row _ kids => T.sizes kids + 1
def T.sizes : List T → Nat
  | [] => 0
  | t :: r => T.size t + T.sizes r
end
theorem T.sizes_snoc : ∀ (ts : List T) (t : T), T.sizes (ts ++ [t]) = T.sizes ts + T.size t
  | [], t => by simp [T.sizes]
  | u :: r, t => by simp [T.sizes, T.sizes_snoc r t]; omega
theorem T.sizes_append : ∀ (ts us : List T), T.sizes (ts ++ us) = T.sizes ts + T.sizes us
  | [], us => by simp [T.sizes]
  | u :: r, us => by simp [T.sizes, T.sizes_append r us]; omega
theorem T.highs_append : ∀ (ts us : List T), T.highs (ts ++ us) = max (T.highs ts) (T.highs us)
  | [], us => by simp [T.highs]
  | u :: r, us => by simp only [List.cons_append, T.highs, T.highs_append r us]; omega
theorem T.oks_append {D} : ∀ (ts us : List T), T.oks D ts → T.oks D us → T.oks D (ts ++ us)
  | [], us, _, h => by simpa using h
  | u :: r, us, h, h' => by
    simp only [T.oks, List.cons_append] at h ⊢
    exact ⟨h.1, T.oks_append r us h.2 h'⟩
mutual
def T.short : T → Prop
  | .leaf _ s => s.length ≤ 8
  | .row _ kids => T.shorts kids
def T.shorts : List T → Prop
  | [] => True
  | t :: r => T.short t ∧ T.shorts r
end
theorem T.shorts_append : ∀ (ts us : List T), T.shorts ts → T.shorts us → T.shorts (ts ++ us)
  | [], us, _, h => by simpa using h
  | u :: r, us, h, h' => by
    simp only [T.shorts, List.cons_append] at h ⊢
    exact ⟨h.1, T.shorts_append r us h.2 h'⟩

/-! the text's length -/
theorem joinL_len (sep : List Nat) : ∀ ls : List (List Nat), (joinL sep ls).length ≤ (ls.map List.length).sum + ls.length * sep.length
  | [] => by simp [joinL]
  | [y] => by simp [joinL]
  | y :: z :: r => by
    have ih := joinL_len sep (z :: r)
    show (y ++ sep ++ joinL sep (z :: r)).length ≤ _
    rw [List.length_append, List.length_append]
    simp only [List.map_cons, List.sum_cons, List.length_cons, Nat.add_mul] at ih ⊢
    omega
mutual
theorem text_len {D} : ∀ t : T, T.ok D t → T.short t → (T.text t).length + 15 ≤ 23 * 2 ^ T.high t * T.size t
  | .leaf n s, _, h => by simp only [T.short] at h; simp only [T.text, T.high, T.size]; omega
  | .row n kids, ho, h => by
    simp only [T.ok] at ho
    simp only [T.short] at h
    have h1 := items_sum kids ho.2.2 h (T.highs kids) (Nat.le_refl _)
    have h2 := joinL_len [44, 32] (T.items kids)
    rw [items_len] at h2
    simp only [T.text, T.high, T.size]
    rw [Nat.mul_add, Nat.pow_succ]
    have h3 : 0 < 2 ^ T.highs kids := Nat.two_pow_pos _
    have h4 : 23 * (2 ^ T.highs kids * 2) * T.sizes kids = 23 * 2 ^ (T.highs kids + 1) * T.sizes kids := by rw [Nat.pow_succ]
    simp only [List.length_cons, List.length_nil] at h2
    omega
theorem items_sum {D} : ∀ ts : List T, T.oks D ts → T.shorts ts → ∀ h, T.highs ts ≤ h → ((T.items ts).map List.length).sum + ts.length * 2 ≤ 23 * 2 ^ (h + 1) * T.sizes ts
  | [], _, _, h, _ => by simp [T.items]
  | t :: r, ho, hs, h, hh => by
    simp only [T.oks] at ho
    simp only [T.shorts] at hs
    simp only [T.highs] at hh
    have h1 := text_len t ho.1 hs.1
    have h2 := items_sum r ho.2 hs.2 h (by omega)
    have h3 : (encP (numText t.num, T.text t)).length = (numText t.num).length + ((esc (T.text t)).length + 3) := by simp [encP]
    have h4 := esc_len (T.text t)
    have h5 := num_len (T.ok_num ho.1)
    have h6 : 23 * 2 ^ T.high t * T.size t * 2 ≤ 23 * 2 ^ (h + 1) * T.size t := by
      have : 2 ^ T.high t * 2 ≤ 2 ^ (h + 1) := by rw [Nat.pow_succ]; exact Nat.mul_le_mul_right _ (Nat.pow_le_pow_right (by decide) (by omega))
      calc 23 * 2 ^ T.high t * T.size t * 2 = 23 * (2 ^ T.high t * 2) * T.size t := by rw [Nat.mul_assoc 23, Nat.mul_assoc 23, Nat.mul_right_comm (2 ^ T.high t), ← Nat.mul_assoc 23]
        _ ≤ 23 * 2 ^ (h + 1) * T.size t := Nat.mul_le_mul_right _ (Nat.mul_le_mul_left _ this)
    simp only [T.items, T.sizes, List.map_cons, List.sum_cons, List.length_cons, Nat.mul_add]
    omega
end
mutual
theorem high_size : ∀ t : T, T.high t ≤ T.size t
  | .leaf _ _ => by simp [T.high, T.size]
  | .row _ kids => by have := highs_sizes kids; simp only [T.high, T.size]; omega
theorem highs_sizes : ∀ ts : List T, T.highs ts ≤ T.sizes ts
  | [] => by simp [T.highs, T.sizes]
  | t :: r => by have h1 := high_size t; have h2 := highs_sizes r; simp only [T.highs, T.sizes]; omega
end

/-! what holds of the open rows -/
def zsize : Z → Nat
  | [] => 0
  | (_, ks) :: r => T.sizes ks + 1 + zsize r
def ZOk (D : List (PyData × PyData)) : Z → Prop
  | [] => True
  | (n, ks) :: r => (256 ≤ n ∧ n ≤ 100000) ∧ T.oks D ks ∧ T.shorts ks ∧ T.highs ks + r.length ≤ 4 ∧ (r = [] → n = 256) ∧ ZOk D r
structure ZInv (D : List (PyData × PyData)) (i : Nat) (z : Z) : Prop where
  ne : z ≠ []
  len : z.length ≤ 4
  size : zsize z ≤ i + 1
  ok : ZOk D z
theorem rowNum_ok (p : Nat) : 256 ≤ rowNum p ∧ rowNum p ≤ 100000 := by unfold rowNum; (repeat' split) <;> decide
theorem zadd_inv {D i z} {t : T} (h : ZInv D i z) (ho : T.ok D t) (hs : T.short t) (hh : T.high t ≤ 1) (hz : T.size t = 1) : ZInv D (i + 1) (zadd t z) := by
  obtain ⟨h1, h2, h3, h4⟩ := h
  cases z with
  | nil => exact absurd rfl h1
  | cons f r =>
    obtain ⟨n, ks⟩ := f
    simp only [ZOk] at h4
    simp only [zsize] at h3
    refine ⟨by simp [zadd], by simpa [zadd] using h2, ?_, ?_⟩
    · simp only [zadd, zsize, T.sizes_snoc]; omega
    · simp only [zadd, ZOk]
      have e : T.highs [t] = T.high t := by simp [T.highs]
      simp only [List.length_cons] at h2
      exact ⟨h4.1, T.oks_append _ _ h4.2.1 (by simp only [T.oks]; exact ⟨ho, trivial⟩), T.shorts_append _ _ h4.2.2.1 (by simp only [T.shorts]; exact ⟨hs, trivial⟩), by rw [T.highs_append, e]; omega, h4.2.2.2.2⟩
theorem zpop_inv {D i z} (h : ZInv D i z) : ZInv D (i + 1) (zpop z) := by
  obtain ⟨h1, h2, h3, h4⟩ := h
  match z, h1, h2, h3, h4 with
  | [f], h1, h2, h3, h4 => exact ⟨h1, h2, Nat.le_succ_of_le h3, h4⟩
  | (n, ks) :: (n2, ks2) :: r, h1, h2, h3, h4 =>
    simp only [ZOk] at h4
    simp only [zsize] at h3
    simp only [List.length_cons] at h2 h4
    refine ⟨by simp [zpop], by simp [zpop]; omega, ?_, ?_⟩
    · simp only [zpop, zsize, T.sizes_snoc, T.size]; omega
    · simp only [zpop, ZOk]
      obtain ⟨a1, a2, a3, a4, _, b1, b2, b3, b4, b5, b6⟩ := h4
      refine ⟨b1, T.oks_append _ _ b2 (by simp only [T.oks, T.ok]; exact ⟨⟨a1.1, a1.2, a2⟩, trivial⟩), T.shorts_append _ _ b3 (by simp only [T.shorts, T.short]; exact ⟨a3, trivial⟩), ?_, b5, b6⟩
      rw [T.highs_append]
      simp only [T.highs, T.high]
      omega
theorem zpush_inv {D i z} (p : Nat) (h : ZInv D i z) (hl : z.length < 4) : ZInv D (i + 1) ((rowNum p, []) :: z) := by
  obtain ⟨h1, h2, h3, h4⟩ := h
  refine ⟨by simp, by simp; omega, by simp only [zsize, T.sizes]; omega, ?_⟩
  simp only [ZOk]
  exact ⟨rowNum_ok p, by simp [T.oks], by simp [T.shorts], by simp [T.highs]; omega, fun e => absurd e h1, h4⟩
/-- what the table of operators must say -/
structure TabOk (D : List (PyData × PyData)) (W : List (List Nat)) : Prop where
  len : W.length = 48
  op : ∀ (p : Nat) (w : List Nat), W[p]? = some w → (Spec.lookup (PyData.str (S w)) D).getD (.int (7 + (p : Int))) = .int (7 + (p : Int))
  asc : ∀ w ∈ W, (∀ c ∈ w, c < 128) ∧ w.length ≤ 8
  txt : ∀ (p : Nat) (n : Int), (Spec.lookup (PyData.str (S (leafTxt p))) D).getD (.int n) = .int n
theorem leafNum_ok (p : Nat) : -1 ≤ leafNum p ∧ leafNum p < 256 := by unfold leafNum; (repeat' split) <;> decide
theorem leafTxt_ok (p : Nat) : (∀ c ∈ leafTxt p, c < 128) ∧ (leafTxt p).length ≤ 8 := by unfold leafTxt; (repeat' split) <;> decide
theorem zstep_inv {D W i z k} (hT : TabOk D W) (hk : k < 384) (h : ZInv D i z) : ZInv D (i + 1) (zstep W z k) := by
  unfold zstep
  split
  · exact zpop_inv h
  · split
    · split
      · exact zpush_inv _ h (by assumption)
      · exact zadd_inv h (by simp only [T.ok, T.oks]; exact ⟨(rowNum_ok _).1, (rowNum_ok _).2, trivial⟩) (by simp [T.short, T.shorts]) (by simp [T.high, T.highs]) (by simp [T.size, T.sizes])
    · split
      · have hp : k / 8 < W.length := by rw [hT.len]; omega
        have hw : W[k / 8]? = some (W.getD (k / 8) []) := by simp [List.getD, List.getElem?_eq_getElem hp]
        have ha := hT.asc _ (List.mem_of_getElem? hw)
        refine zadd_inv h ?_ (by simp only [T.short]; exact ha.2) (by simp [T.high]) (by simp [T.size])
        simp only [T.ok]
        exact ⟨by omega, by omega, hT.op _ _ hw, ha.1⟩
      · split
        · refine zadd_inv h ?_ (by simp only [T.short]; exact (leafTxt_ok _).2) (by simp [T.high]) (by simp [T.size])
          simp only [T.ok]
          exact ⟨(leafNum_ok _).1, (leafNum_ok _).2, hT.txt _ _, (leafTxt_ok _).1⟩
        · refine zadd_inv h ?_ (by simp [T.short]) (by simp [T.high]) (by simp [T.size])
          simp only [T.ok]
          exact ⟨by decide, by decide, hT.txt 0 0, by simp⟩
theorem zrun_inv {D W} (hT : TabOk D W) : ∀ (ks : List Nat), (∀ k ∈ ks, k < 384) → ∀ i z, ZInv D i z → ZInv D (i + ks.length) (ks.foldl (zstep W) z)
  | [], _, i, z, h => h
  | k :: r, hk, i, z, h => by
    have := zrun_inv hT r (fun k hm => hk k (List.mem_cons_of_mem _ hm)) (i + 1) _ (zstep_inv hT (hk k (List.mem_cons_self ..)) h)
    rw [List.length_cons, Nat.add_comm r.length 1, ← Nat.add_assoc]
    exact this
theorem zstart_inv (D) : ZInv D 0 [(256, [])] := ⟨by simp, by simp, by simp [zsize, T.sizes], by simp [ZOk, T.oks, T.shorts, T.highs]⟩
theorem zclose_ok {D} : ∀ (z : Z) (last : List T), z ≠ [] → ZOk D z → T.oks D last → T.shorts last → T.highs last + z.length ≤ 5 → ∃ kids, zclose last z = .row 256 kids ∧ T.oks D kids ∧ T.shorts kids ∧ T.highs kids ≤ 4 ∧ T.sizes kids + 1 ≤ zsize z + T.sizes last
  | [], _, h, _, _, _, _ => absurd rfl h
  | [(n, ks)], last, _, h, h1, h2, h3 => by
    rw [ZOk] at h
    obtain ⟨a1, a2, a3, a4, a5, _⟩ := h
    obtain rfl := a5 rfl
    refine ⟨ks ++ last, rfl, T.oks_append _ _ a2 h1, T.shorts_append _ _ a3 h2, ?_, ?_⟩
    · rw [T.highs_append]; simp at a4 h3; omega
    · rw [T.sizes_append]; simp only [zsize]; omega
  | (n, ks) :: f :: r, last, _, h, h1, h2, h3 => by
    have hz := h
    rw [ZOk] at h
    obtain ⟨a1, a2, a3, a4, _, hr⟩ := h
    simp only [List.length_cons] at a4 h3
    have ih := zclose_ok (f :: r) [.row n (ks ++ last)] (by simp) hr (by simp only [T.oks, T.ok]; exact ⟨⟨a1.1, a1.2, T.oks_append _ _ a2 h1⟩, trivial⟩) (by simp only [T.shorts, T.short]; exact ⟨T.shorts_append _ _ a3 h2, trivial⟩)
      (by simp only [T.highs, T.high, T.highs_append, List.length_cons]; omega)
    obtain ⟨kids, e, b1, b2, b3, b4⟩ := ih
    refine ⟨kids, e, b1, b2, b3, ?_⟩
    simp only [T.sizes, T.size, T.sizes_append] at b4
    simp only [zsize] at b4 ⊢
    omega
/-- the whole tree is as the contracts want it -/
theorem tree_ok {D W} (hT : TabOk D W) (ks : List Nat) (hk : ∀ k ∈ ks, k < 384) (hl : ks.length ≤ 16) : ∃ kids, zclose [] (ks.foldl (zstep W) [(256, [])]) = .row 256 kids ∧ T.oks D kids ∧ T.highs kids ≤ 4 ∧ (T.text (.row 256 kids)).length ≤ 2 ^ 14 := by
  have h := zrun_inv hT ks hk 0 _ (zstart_inv D)
  obtain ⟨kids, e, h1, h2, h3, h4⟩ := zclose_ok _ [] h.ne h.ok (by simp [T.oks]) (by simp [T.shorts]) (by simp [T.highs]; have := h.len; omega)
  refine ⟨kids, e, h1, h3, ?_⟩
  have hl2 := text_len (D := D) (.row 256 kids) (by simp only [T.ok]; exact ⟨by decide, by decide, h1⟩) (by simp only [T.short]; exact h2)
  simp only [T.high, T.size] at hl2
  simp only [T.sizes] at h4
  have hs : T.sizes kids + 1 ≤ 17 := by have := h.size; omega
  have hp : 2 ^ (T.highs kids + 1) ≤ 2 ^ 5 := Nat.pow_le_pow_right (by decide) (by omega)
  have : 23 * 2 ^ (T.highs kids + 1) * (T.sizes kids + 1) ≤ 23 * 2 ^ 5 * 17 := Nat.mul_le_mul (Nat.mul_le_mul_left _ hp) hs
  omega

/-! part C8 -/
/-! open rows in the heap, the innermost first -/
def Op (R : Rl) : List Value → Z → List Addr → Led → Prop
  | _, [], as, ops => as = [] ∧ ops = []
  | last, (n, ks) :: r, as, ops => ∃ a as' ops' t vs k, as = a :: as' ∧ ops = (a, listOf (Value.int n t :: (vs ++ last)).toArray k) :: ops' ∧ Reps R ks vs ∧ Op R [.ref a] r as' ops'
theorem Op.mono {R R' : Rl} (hR : ∀ a o, R a o → R' a o) : ∀ (z : Z) (last : List Value) (as : List Addr) (ops : Led), Op R last z as ops → Op R' last z as ops
  | [], _, _, _, h => by simpa only [Op] using h
  | (n, ks) :: r, last, as, ops, h => by
    simp only [Op] at h ⊢
    obtain ⟨a, as', ops', t, vs, k, e1, e2, h1, h2⟩ := h
    exact ⟨a, as', ops', t, vs, k, e1, e2, Reps.mono hR _ _ h1, Op.mono hR r _ _ _ h2⟩
theorem Op.len {R : Rl} : ∀ (z : Z) (last : List Value) (as : List Addr) (ops : Led), Op R last z as ops → as.length = z.length
  | [], _, _, _, h => by simp only [Op] at h; simp [h.1]
  | (n, ks) :: r, last, as, ops, h => by
    simp only [Op] at h
    obtain ⟨a, as', ops', t, vs, k, rfl, e2, h1, h2⟩ := h
    simp [Op.len r _ _ _ h2]
theorem Reps.append {R : Rl} : ∀ {ts : List T} {vs : List Value} {us : List T} {ws : List Value}, Reps R ts vs → Reps R us ws → Reps R (ts ++ us) (vs ++ ws)
  | [], vs, us, ws, h, h' => by simp only [Reps] at h; subst h; simpa using h'
  | t :: ts, vs, us, ws, h, h' => by
    simp only [Reps] at h
    obtain ⟨v, r, rfl, h1, h2⟩ := h
    simp only [List.cons_append, Reps]
    exact ⟨v, r ++ ws, rfl, h1, Reps.append h2 h'⟩
theorem Op.close {R R' : Rl} (hR : ∀ a o, R a o → R' a o) : ∀ (z : Z) (lastT : List T) (last : List Value) (as : List Addr) (ops : Led) (a0 : Addr), Op R last z as ops → (∀ p ∈ ops, R' p.1 p.2) → Reps R' lastT last → as.getLast? = some a0 → Rep R' (zclose lastT z) (.ref a0)
  | [], _, _, as, _, a0, h, _, _, h0 => by simp only [Op] at h; rw [h.1] at h0; simp at h0
  | [(n, ks)], lastT, last, as, ops, a0, h, hops, hl, h0 => by
    simp only [Op] at h
    obtain ⟨a, as', ops', t, vs, k, rfl, rfl, h1, rfl, rfl⟩ := h
    simp at h0; subst h0
    simp only [zclose, Rep]
    exact ⟨a, t, vs ++ last, k, rfl, hops _ (.head _), Reps.append (Reps.mono hR _ _ h1) hl⟩
  | (n, ks) :: f :: r, lastT, last, as, ops, a0, h, hops, hl, h0 => by
    rw [Op] at h
    obtain ⟨a, as', ops', t, vs, k, rfl, rfl, h1, h2⟩ := h
    have hrow : Rep R' (.row n (ks ++ lastT)) (.ref a) := by
      simp only [Rep]
      exact ⟨a, t, vs ++ last, k, rfl, hops _ (.head _), Reps.append (Reps.mono hR _ _ h1) hl⟩
    have hl2 := Op.len _ _ _ _ h2
    have h0' : as'.getLast? = some a0 := by
      cases as' with
      | nil => simp at hl2
      | cons b t => simpa using h0
    show Rep R' (zclose [.row n (ks ++ lastT)] (f :: r)) (.ref a0)
    exact Op.close hR (f :: r) _ [.ref a] as' ops' a0 h2 (fun p hp => hops p (.tail _ hp)) (by simp only [Reps]; exact ⟨_, [], rfl, hrow, rfl⟩) h0'

theorem kl_last_snoc : ∀ (p : List Value) (y : Value), kl_last (p ++ [y]) = some (p, y)
  | [], y => rfl
  | x :: r, y => by simp [kl_last, kl_last_snoc r y]

section
variable {prog : Program} {w : World} {A : Around} {E : Value → Shared → Prop} {s : Shared} {h₀ : Heap} {L : Addr} {m : Locs}
theorem append_mid {pre post : Led} {D : Addr} {its : Array Value} {n : Nat} {x : Value} {Q : Value → Shared → Prop} (S : St h₀ L s.heap m (pre ++ (D, listOf its n) :: post))
    (h : ∀ h' n', St h₀ L h' m (pre ++ (D, listOf (its.push x) n') :: post) → Q .none { s with heap := h' }) (hsz : its.size ≤ sizeLine) :
    wpAny (model prog w) A (call (.builtin "list.append") [.ref D, x]) Q E s :=
  list_append (S.perm List.perm_middle) (fun h' n' S' => h h' n' (S'.perm List.perm_middle.symm)) hsz
theorem pop_mid {pre post : Led} {D : Addr} {p : List Value} {y : Value} {n : Nat} {Q : Value → Shared → Prop} (S : St h₀ L s.heap m (pre ++ (D, listOf (p ++ [y]).toArray n) :: post))
    (h : ∀ h' n', St h₀ L h' m (pre ++ (D, listOf p.toArray n') :: post) → Q y { s with heap := h' }) (hsz : p.length + 1 ≤ sizeLine) :
    wpAny (model prog w) A (call (.builtin "list.pop") [.ref D]) Q E s := by
  have S₁ := S.perm List.perm_middle
  have hnd := S₁.nd
  rw [List.map_cons] at hnd
  have hne := (List.nodup_cons.mp hnd).1
  refine kl_pop (its := (p ++ [y]).toArray) S₁.fr S₁.nw (kl_last_snoc p y) (Upd.head fun q hq e => hne (List.mem_map.mpr ⟨q, hq, e⟩)) (by simpa using hsz) fun h' F N => ?_
  have S₂ : St h₀ L h' m ((D, listOf p.toArray (n + 1)) :: (pre ++ post)) := ⟨F, N, hnd⟩
  exact h h' _ (S₂.perm List.perm_middle.symm)
theorem mod_to {a b c : Int} {t u : Tok} {Q : Value → Shared → Prop} (hb : b ≠ 0) (e : Int.fmod a b = c) (h : Q (.int c s.toks) { s with toks := s.toks + 1 }) : wpAny (model prog w) A (binaryOp .Mod (.int a t) (.int b u)) Q E s := by
  subst e; exact mod_int' hb h
theorem div_to {a b c : Int} {t u : Tok} {Q : Value → Shared → Prop} (hb : b ≠ 0) (hs : b.natAbs < 1073741824) (e : Int.fdiv a b = c) (h : Q (.int c s.toks) { s with toks := s.toks + 1 }) : wpAny (model prog w) A (binaryOp .FloorDiv (.int a t) (.int b u)) Q E s := by
  subst e; exact floordiv_int hb h (.inl (PyProof.noPylong_small hs))
theorem list_last {value slice : Expr} {l : Addr} {p : List Value} {y : Value} {u : Tok} {Q : Value → Shared → Prop} (hl : s.heap.IsList l (p ++ [y]).toArray) (h : Q y s)
    (hs : subscripted slice false (.ref l) (.int (-1) u) = operate [.ref l, .int (-1) u] (getItem (.ref l) (.int (-1) u)) := by with_unfolding_all rfl) :
    wpAny (model prog w) A (subscriptTail value slice (.ref l) (.int (-1) u)) Q E s :=
  tail_any hl.typeIs slot_list_getitem.lookup (wpAny_getItem_list_neg hl (by decide) (by simp; omega) (by decide) (by
    have e : ((-1 : Int) + ((p ++ [y]).toArray.size : Nat)).toNat = p.length := by simp; omega
    rw [e]; simp) h) hs
end
theorem fmod_nat (k b : Nat) : Int.fmod (k : Int) (b : Int) = ((k % b : Nat) : Int) := by
  rw [Int.fmod_eq_emod_of_nonneg _ (by omega)]; rfl
theorem fdiv_nat (k b : Nat) : Int.fdiv (k : Int) (b : Int) = ((k / b : Nat) : Int) := by
  rw [Int.fdiv_eq_ediv_of_nonneg _ (by omega)]; rfl

/-! part C9 -/
def stackOf (as : List Addr) : List Value := as.reverse.map Value.ref
theorem stackOf_cons (a : Addr) (as : List Addr) : stackOf (a :: as) = stackOf as ++ [.ref a] := by simp [stackOf]
theorem stackOf_len (as : List Addr) : (stackOf as).length = as.length := by simp [stackOf]

/-- _law_tree's names and objects between the turns -/
structure TJ (st wa a0 : Addr) (z : Z) (m : Locs) (news : Led) : Prop where
  stk : m (Str.ofString "stack") = some (.ref st)
  wrd : m (Str.ofString "words") = some (.ref wa)
  tre : m (Str.ofString "tree") = some (.ref a0)
  led : ∃ as ops fz k, Op (InL fz) [] z as ops ∧ as.getLast? = some a0 ∧ news = (st, listOf (stackOf as).toArray k) :: (ops ++ fz)

theorem kids_le : ∀ ks : List T, ks.length ≤ T.sizes ks
  | [] => by simp
  | t :: r => by
    have := kids_le r
    have h : 1 ≤ T.size t := by cases t <;> simp [T.size]
    simp only [List.length_cons, T.sizes]
    omega
theorem seq_nat {j n : Nat} (h : j < n) : seqIndex? (j : Int) n = some j := by
  have := StrLaws.seqIndex_nonneg (i := (j : Int)) (n := n) (by omega) (by omega)
  simpa using this
theorem mod4 (p : Nat) : p % 4 = 0 ∨ p % 4 = 1 ∨ p % 4 = 2 ∨ p % 4 = 3 := by omega
theorem row_menu (p : Nat) (t0 t1 t2 t3 : Tok) : ∃ t, [Value.int 256 t0, .int 257 t1, .int 600 t2, .int 100000 t3][p % 4]? = some (.int (rowNum p) t) := by
  unfold rowNum
  rcases mod4 p with h | h | h | h <;> rw [h] <;> exact ⟨_, rfl⟩
theorem leaf_menu (p : Nat) (t0 t1 t2 t3 : Tok) : ∃ t, [Value.int 1 t0, .int 3 t1, .int 255 t2, .int (-1) t3][p % 4]? = some (.int (leafNum p) t) := by
  unfold leafNum
  rcases mod4 p with h | h | h | h <;> rw [h] <;> exact ⟨_, rfl⟩
theorem text_menu (p : Nat) (t0 t1 t2 t3 : Tok) : ∃ t, [Value.str (Str.ofString "") t0, .str (Str.ofString "\"") t1, .str (Str.ofString "\\") t2, .str (Str.ofString " a\", b\\=") t3][p / 4 % 4]? = some (.str (S (leafTxt p)) t) := by
  have e0 : Str.ofString "" = S [] := by decide +kernel
  have e1 : Str.ofString "\"" = S [34] := by decide +kernel
  have e2 : Str.ofString "\\" = S [92] := by decide +kernel
  have e3 : Str.ofString " a\", b\\=" = S [32, 97, 34, 44, 32, 98, 92, 61] := by decide +kernel
  rw [e0, e1, e2, e3]
  unfold leafTxt
  rcases mod4 (p / 4) with h | h | h | h <;> rw [h] <;> exact ⟨_, rfl⟩

section
variable {prog : Program} {w : World} {A : Around} {E : Value → Shared → Prop} {s : Shared} {h₀ : Heap} {L : Addr} {m : Locs}

/-- a made leaf (or empty row) x goes to the innermost open row a -/
theorem add_last {it l wa st a0 a x : Addr} {o lo wo xo : Obj} {z : Z} {n : Int} {ks : List T} {as : List Addr} {ops fz : Led} {k ka : Nat} {tn : Tok} {vs : List Value} {t : T} {Q : Value → Shared → Prop}
    (S : St h₀ L s.heap m ((x, xo) :: (it, o) :: ([(l, lo), (wa, wo)] ++ ((st, listOf (stackOf (a :: as)).toArray k) :: (((a, listOf (Value.int n tn :: vs).toArray ka) :: ops) ++ fz)))))
    (h1 : m (Str.ofString "stack") = some (.ref st)) (h2 : m (Str.ofString "words") = some (.ref wa)) (h3 : m (Str.ofString "tree") = some (.ref a0)) (h4 : (a :: as).getLast? = some a0)
    (hks : Reps (InL fz) ks vs) (hop : Op (InL fz) [.ref a] z as ops) (hx : Rep (InL ((x, xo) :: fz)) t (.ref x)) (hsz : T.sizes ks ≤ 1000)
    (h : ∀ h' news₂, St h₀ L h' m ((it, o) :: ([(l, lo), (wa, wo)] ++ news₂)) → TJ st wa a0 ((n, ks ++ [t]) :: z) m news₂ → Q .none { s with heap := h' }) :
    wpAny (model prog w) A (call (.builtin "list.append") [.ref a, .ref x]) Q E s := by
  have hsl : sizeLine = 16777216 := sizeLine_eq
  have hl := hks.length
  have hkl := kids_le ks
  refine append_mid (pre := [(x, xo), (it, o), (l, lo), (wa, wo), (st, _)]) (post := ops ++ fz) S (fun h' n' S' => ?_) (by rw [List.size_toArray, List.length_cons, hl, hsl]; omega)
  have e : (Value.int n tn :: vs).toArray.push (.ref x) = (Value.int n tn :: ((vs ++ [.ref x]) ++ [])).toArray := by simp
  rw [e] at S'
  have S₂ : St h₀ L h' m ((it, o) :: ([(l, lo), (wa, wo)] ++ ((st, listOf (stackOf (a :: as)).toArray k) :: (((a, _) :: ops) ++ ((x, xo) :: fz))))) :=
    S'.perm ((List.perm_middle (a := (x, xo)) (l₁ := [_, _, _, _, _]) (l₂ := ops ++ fz)).symm.trans ((List.perm_middle (a := (x, xo)) (l₁ := ops) (l₂ := fz)).symm.append_left [_, _, _, _, _]))
  refine h h' _ S₂ ⟨h1, h2, h3, a :: as, _, _, k, ?_, h4, rfl⟩
  simp only [Op]
  exact ⟨a, as, ops, tn, vs ++ [.ref x], n', rfl, rfl, Reps.snoc (Reps.mono (fun _ _ q => .tail _ q) _ _ hks) hx, Op.mono (fun _ _ q => .tail _ q) _ _ _ _ hop⟩
end

/-! part C10 -/
theorem zadd_cons (t : T) (n : Int) (ks : List T) (r : Z) : zadd t ((n, ks) :: r) = (n, ks ++ [t]) :: r := rfl

theorem one {M : Model} {A : Around} {E : Value → Shared → Prop} {s : Shared} {env : Env} {st : Stmt} {Q : Flow → Shared → Prop} (h : wpAny M A (exec st env) Q E s) : wpAny M A (execs [st] env) Q E s :=
  wpAny_execs_cons (wpAny_mono h (fun f s' q => by cases f <;> first | exact wpAny_execs_nil q | exact q) fun _ _ e => e)
def ifBody : Stmt → List Stmt
  | .If _ b _ _ => b
  | _ => []
def ifElse : Stmt → List Stmt
  | .If _ _ e _ => e
  | _ => []
def nth (l : List Stmt) (i : Nat) : Stmt := l.getD i (.Pass ⟨0, 0, 0, 0⟩)
def if0 : Stmt := nth (loopBody 59 3) 2
def if1 : Stmt := nth (ifElse if0) 0
def if2 : Stmt := nth (ifElse if1) 0
def if3 : Stmt := nth (ifElse if2) 0

section
variable {prog : Program} {w : World} {mg mb : Locs} {D : List (PyData × PyData)} {fs : Fs}

set_option maxHeartbeats 4000000 in
theorem pop_turn {A : Around} {s : Shared} {h₀ : Heap} {Q : Flow → Shared → Prop} {L f it l wa st a0 a : Addr} {cd : Value} {o lo wo : Obj} {m : Locs} {fz ops : Led} {as : List Addr} {r : Z} {n : Int} {tn : Tok} {ks : List T} {vs : List Value} {ka kst p tk : Nat} {h : Heap} 
    (S₂ : St h₀ L h m ((it, o) :: ([(l, lo), (wa, wo)] ++ ((st, listOf (stackOf (a :: as)).toArray kst) :: (((a, listOf (Value.int n tn :: vs).toArray ka) :: ops) ++ fz))))) (Wd₀ : Wd prog w mg mb D fs h₀)
    (hstk : m (Str.ofString "stack") = some (.ref st)) (hwrd : m (Str.ofString "words") = some (.ref wa)) (htre : m (Str.ofString "tree") = some (.ref a0)) (hlast : (a :: as).getLast? = some a0)
    (hks : Reps (InL fz) ks vs) (hop : Op (InL fz) [.ref a] r as ops) (hrl : r.length ≤ 3) (zks : T.sizes ks ≤ 1000) (hpl : ∃ tp, m (Str.ofString "place") = some (.int (p : Int) tp))  :
    wpAny (model prog w) A (execs (ifBody if0) (envOf (fnName (stmtAt 59)) (fnScope (stmtAt 59)) L f cd)) (Turn h₀ L it o [(l, lo), (wa, wo)] s (TJ st wa a0 (zpop ((n, ks) :: r))) Q) NoE { s with heap := h, toks := tk } := by
  have hsl : sizeLine = 16777216 := sizeLine_eq
  obtain ⟨tp, hpl⟩ := hpl
  have hal := Op.len _ _ _ _ hop
  have zst : (stackOf (a :: as)).toArray.size = r.length + 1 := by rw [List.size_toArray, stackOf_len, List.length_cons, hal]
  have fst : ((stackOf (a :: as)).toArray.size : Int) < 2 ^ 63 := by rw [zst]; omega
  have zst2 : (stackOf (a :: as)).toArray.size ≤ sizeLine := by rw [zst, hsl]; omega
  refine one (wpAny_If (wpAny_isTrue_Compare1 (Call_ (ev_builtin S₂ Wd₀.gl.g Wd₀.nLen Wd₀.gl.b Wd₀.bLen ?_))))
  refine PyProof.Rows.callWith_builtin1 (wpAny_items_cons (ev_local S₂ hstk (wpAny_items_nil (Calls.call_len_list ⟨_, S₂.get (.tail _ (.tail _ (.tail _ (.head _)))), rfl, kst, rfl⟩ fst ?_))))
  refine wpAny_Constant_int (gt_int (wpAny_truthy_bool ?_))
  cases r with
  | nil =>
    refine noB (decide_eq_false (by rw [zst]; simp)) (wpAny_execs_nil ?_)
    refine Turn.next (own := [(l, lo), (wa, wo)]) S₂ ⟨hstk, hwrd, htre, _, _, _, kst, ?_, hlast, rfl⟩
    simp only [Op] at hop
    obtain ⟨rfl, rfl⟩ := hop
    simp only [zpop, Op, List.append_nil]
    exact ⟨a, [], [], tn, vs, ka, rfl, rfl, hks, rfl, rfl⟩
  | cons f2 r2 =>
    obtain ⟨n2, ks2⟩ := f2
    refine yesB (decide_eq_true (by rw [zst]; simp only [List.length_cons]; omega)) ?_
    refine one (wpAny_Expr_any (MethodCall_ (ev_local S₂ hstk (list_method (S₂.get (.tail _ (.tail _ (.tail _ (.head _))))) PySem.F.slot_list_pop PySem.F.type_list_pop (callWith_method0 ?_)))))
    have S₃ := S₂
    rw [stackOf_cons] at S₃
    refine pop_mid (pre := [(it, o), (l, lo), (wa, wo)]) (post := ((a, listOf (Value.int n tn :: vs).toArray ka) :: ops) ++ fz) S₃ (fun h₄ k₄ S₄ => ?_) (by rw [stackOf_len, hal, hsl]; omega)
    try dsimp only
    have S₅ : St h₀ L h₄ _ ((it, o) :: ([(l, lo), (wa, wo)] ++ ((st, listOf (stackOf as).toArray k₄) :: (ops ++ ((a, listOf (Value.int n tn :: vs).toArray ka) :: fz))))) :=
      S₄.perm ((List.perm_middle (a := (a, listOf (Value.int n tn :: vs).toArray ka)) (l₁ := ops) (l₂ := fz)).symm.append_left [_, _, _, _])
    refine Turn.next (own := [(l, lo), (wa, wo)]) S₅ ⟨hstk, hwrd, htre, as, ops, _, k₄, ?_, ?_, rfl⟩
    · simp only [Op] at hop
      obtain ⟨b, bs, opb, tb, vb, kb, rfl, rfl, hkb, hopb⟩ := hop
      simp only [zpop, Op]
      refine ⟨b, bs, opb, tb, vb ++ [.ref a], kb, rfl, by simp, Reps.snoc (Reps.mono (fun _ _ q => .tail _ q) _ _ hkb) ?_, Op.mono (fun _ _ q => .tail _ q) _ _ _ _ hopb⟩
      simp only [Rep]
      exact ⟨a, tn, vs, ka, rfl, .head _, Reps.mono (fun _ _ q => .tail _ q) _ _ hks⟩
    · simp only [List.length_cons] at hal
      cases as with
      | nil => simp at hal
      | cons b bs => simpa using hlast


set_option maxHeartbeats 4000000 in
theorem push_turn {A : Around} {s : Shared} {h₀ : Heap} {Q : Flow → Shared → Prop} {L f it l wa st a0 a : Addr} {cd : Value} {o lo wo : Obj} {m : Locs} {fz ops : Led} {as : List Addr} {r : Z} {n : Int} {tn : Tok} {ks : List T} {vs : List Value} {ka kst p tk : Nat} {h : Heap} 
    (S₂ : St h₀ L h m ((it, o) :: ([(l, lo), (wa, wo)] ++ ((st, listOf (stackOf (a :: as)).toArray kst) :: (((a, listOf (Value.int n tn :: vs).toArray ka) :: ops) ++ fz))))) (Wd₀ : Wd prog w mg mb D fs h₀)
    (hstk : m (Str.ofString "stack") = some (.ref st)) (hwrd : m (Str.ofString "words") = some (.ref wa)) (htre : m (Str.ofString "tree") = some (.ref a0)) (hlast : (a :: as).getLast? = some a0)
    (hks : Reps (InL fz) ks vs) (hop : Op (InL fz) [.ref a] r as ops) (hrl : r.length ≤ 3) (zks : T.sizes ks ≤ 1000) (hpl : ∃ tp, m (Str.ofString "place") = some (.int (p : Int) tp))  :
    wpAny (model prog w) A (execs (ifBody if1) (envOf (fnName (stmtAt 59)) (fnScope (stmtAt 59)) L f cd)) (Turn h₀ L it o [(l, lo), (wa, wo)] s (TJ st wa a0 (if ((n, ks) :: r).length < 4 then (rowNum p, []) :: (n, ks) :: r else zadd (.row (rowNum p) []) ((n, ks) :: r))) Q) NoE { s with heap := h, toks := tk } := by
  have hsl : sizeLine = 16777216 := sizeLine_eq
  obtain ⟨tp, hpl⟩ := hpl
  have hal := Op.len _ _ _ _ hop
  have zst : (stackOf (a :: as)).toArray.size = r.length + 1 := by rw [List.size_toArray, stackOf_len, List.length_cons, hal]
  have fst : ((stackOf (a :: as)).toArray.size : Int) < 2 ^ 63 := by rw [zst]; omega
  have zst2 : (stackOf (a :: as)).toArray.size ≤ sizeLine := by rw [zst, hsl]; omega
  have hst : h.IsList st (stackOf as ++ [Value.ref a]).toArray := ⟨_, stackOf_cons a as ▸ S₂.get (.tail _ (.tail _ (.tail _ (.head _)))), rfl, kst, rfl⟩
  have ha : h.get? a = some (listOf (Value.int n tn :: vs).toArray ka) := S₂.get (.tail _ (.tail _ (.tail _ (.tail _ (.head _)))))
  refine wpAny_execs_cons (wpAny_Assign_Name (List_ (wpAny_items_cons (Subscript_ (Tuple_ (wpAny_items_cons (wpAny_Constant_int ?_)))))))
  try dsimp only
  refine wpAny_items_cons (wpAny_Constant_int ?_)
  try dsimp only
  refine wpAny_items_cons (wpAny_Constant_int ?_)
  try dsimp only
  refine wpAny_items_cons (wpAny_Constant_int ?_)
  try dsimp only
  refine wpAny_items_nil (new_tuple S₂ fun t1 h₃ S₃ => ?_)
  try dsimp only
  refine wpAny_BinOp (ev_local S₃ hpl (wpAny_Constant_int (mod_to (c := ((p % 4 : Nat) : Int)) (by decide) (fmod_nat p 4) ?_)))
  obtain ⟨tr, htr⟩ := row_menu p tk (tk + 1) (tk + 1 + 1) (tk + 1 + 1 + 1)
  refine item_tupleT (j := p % 4) ⟨_, S₃.head, rfl, 0, rfl⟩ (by omega) (by omega) (seq_nat (Nat.mod_lt _ (by decide))) htr ?_
  refine wpAny_items_nil (new_list S₃ fun x h₅ S₅ => ?_)
  have S₆ := S₅.sub (.cons₂ _ (.cons _ (List.Sublist.refl _)))
  try dsimp only
  clear S₅ S₃ S₂
  refine st_local S₆ fun h₇ tk₇ l₇ S₇ => ?_
  try dsimp only
  clear S₆
  have hst₇ : h₇.get? st = some (listOf (stackOf (a :: as)).toArray kst) := S₇.get (.tail _ (.tail _ (.tail _ (.tail _ (.head _)))))
  have ha₇ : h₇.get? a = some (listOf (Value.int n tn :: vs).toArray ka) := S₇.get (.tail _ (.tail _ (.tail _ (.tail _ (.tail _ (.head _))))))
  refine wpAny_execs_cons (wpAny_Expr (MethodCall_ (Subscript_ (ev_local S₇ hstk (UnaryOp_ (wpAny_Constant_int (neg_int (list_last ⟨_, stackOf_cons a as ▸ hst₇, rfl, kst, rfl⟩ ?_))))))))
  refine list_method ha₇ PySem.F.slot_list_append PySem.F.type_list_append ?_
  refine callWith_method1 (wpAny_items_cons (ev_local S₇ rfl (wpAny_items_nil ?_)))
  refine append_mid (pre := [(x, _), (it, o), (l, lo), (wa, wo), (st, _)]) (post := ops ++ fz) S₇ (fun h₈ k₈ S₈ => ?_) (by rw [List.size_toArray, List.length_cons, hks.length, hsl]; have := kids_le ks; omega)
  have e : (Value.int n tn :: vs).toArray.push (.ref x) = (Value.int n tn :: (vs ++ [.ref x])).toArray := by simp
  rw [e] at S₈
  try dsimp only
  clear S₇
  have hst₈ : h₈.get? st = some (listOf (stackOf (a :: as)).toArray kst) := S₈.get (.tail _ (.tail _ (.tail _ (.tail _ (.head _)))))
  refine one (wpAny_If (wpAny_isTrue_Compare1 (Call_ (ev_builtin S₈ Wd₀.gl.g Wd₀.nLen Wd₀.gl.b Wd₀.bLen ?_))))
  refine PyProof.Rows.callWith_builtin1 (wpAny_items_cons (ev_local S₈ hstk (wpAny_items_nil (Calls.call_len_list ⟨_, hst₈, rfl, kst, rfl⟩ fst ?_))))
  refine wpAny_Constant_int (lt_int (wpAny_truthy_bool ?_))
  by_cases c4 : ((n, ks) :: r).length < 4
  · rw [if_pos c4]
    simp only [List.length_cons] at c4
    refine yesB (decide_eq_true (by rw [zst]; omega)) ?_
    refine one (wpAny_Expr (MethodCall_ (ev_local S₈ hstk (list_method hst₈ PySem.F.slot_list_append PySem.F.type_list_append ?_))))
    refine callWith_method1 (wpAny_items_cons (ev_local S₈ rfl (wpAny_items_nil ?_)))
    refine append_mid (pre := [(x, _), (it, o), (l, lo), (wa, wo)]) (post := (a, _) :: (ops ++ fz)) S₈ (fun h₉ k₉ S₉ => ?_) zst2
    have e2 : (stackOf (a :: as)).toArray.push (.ref x) = (stackOf (x :: a :: as)).toArray := by rw [stackOf_cons x]; simp
    rw [e2] at S₉
    try dsimp only
    have S₁₀ : St h₀ L h₉ _ ((it, o) :: ([(l, lo), (wa, wo)] ++ ((st, listOf (stackOf (x :: a :: as)).toArray k₉) :: (((x, _) :: (a, _) :: ops) ++ fz)))) :=
      S₉.perm (List.perm_middle (a := (x, _)) (l₁ := [_, _, _, _])).symm
    refine Turn.next (own := [(l, lo), (wa, wo)]) S₁₀ ⟨hstk, hwrd, htre, x :: a :: as, _, fz, k₉, ?_, by simpa using hlast, rfl⟩
    simp only [Op]
    exact ⟨x, a :: as, _, tr, [], 0, rfl, rfl, by simp [Reps], a, as, ops, tn, vs, k₈, rfl, rfl, hks, hop⟩
  · rw [if_neg c4]
    simp only [List.length_cons] at c4
    refine noB (decide_eq_false (by rw [zst]; omega)) (wpAny_execs_nil ?_)
    rw [zadd_cons]
    have S₉ : St h₀ L h₈ _ ((it, o) :: ([(l, lo), (wa, wo)] ++ ((st, listOf (stackOf (a :: as)).toArray kst) :: (((a, _) :: ops) ++ ((x, _) :: fz))))) :=
      S₈.perm ((List.perm_middle (a := (x, _)) (l₁ := [_, _, _, _, _]) (l₂ := ops ++ fz)).symm.trans ((List.perm_middle (a := (x, _)) (l₁ := ops) (l₂ := fz)).symm.append_left [_, _, _, _, _]))
    refine Turn.next (own := [(l, lo), (wa, wo)]) S₉ ⟨hstk, hwrd, htre, a :: as, _, _, kst, ?_, hlast, rfl⟩
    simp only [Op, List.append_nil]
    refine ⟨a, as, ops, tn, vs ++ [.ref x], k₈, rfl, rfl, Reps.snoc (Reps.mono (fun _ _ q => .tail _ q) _ _ hks) ?_, Op.mono (fun _ _ q => .tail _ q) _ _ _ _ hop⟩
    simp only [Rep]
    exact ⟨x, tr, [], 0, rfl, .head _, by simp [Reps]⟩


set_option maxHeartbeats 4000000 in
theorem op_turn {A : Around} {s : Shared} {h₀ : Heap} {Q : Flow → Shared → Prop} {L f it l wa st a0 a : Addr} {cd : Value} {o lo wo : Obj} {m : Locs} {fz ops : Led} {as : List Addr} {r : Z} {n : Int} {tn : Tok} {ks : List T} {vs : List Value} {ka kst p tk : Nat} {h : Heap} {W : List (List Nat)}
    (S₂ : St h₀ L h m ((it, o) :: ([(l, lo), (wa, wo)] ++ ((st, listOf (stackOf (a :: as)).toArray kst) :: (((a, listOf (Value.int n tn :: vs).toArray ka) :: ops) ++ fz))))) (Wd₀ : Wd prog w mg mb D fs h₀)
    (hstk : m (Str.ofString "stack") = some (.ref st)) (hwrd : m (Str.ofString "words") = some (.ref wa)) (htre : m (Str.ofString "tree") = some (.ref a0)) (hlast : (a :: as).getLast? = some a0)
    (hks : Reps (InL fz) ks vs) (hop : Op (InL fz) [.ref a] r as ops) (hrl : r.length ≤ 3) (zks : T.sizes ks ≤ 1000) (hpl : ∃ tp, m (Str.ofString "place") = some (.int (p : Int) tp)) (hw : ∃ ws kw, wo = listOf ws.toArray kw ∧ Strs ws W ∧ W.length = 48 ∧ p < 48) :
    wpAny (model prog w) A (execs (ifBody if2) (envOf (fnName (stmtAt 59)) (fnScope (stmtAt 59)) L f cd)) (Turn h₀ L it o [(l, lo), (wa, wo)] s (TJ st wa a0 (zadd (.leaf (7 + (p : Int)) (W.getD p [])) ((n, ks) :: r))) Q) NoE { s with heap := h, toks := tk } := by
  have hsl : sizeLine = 16777216 := sizeLine_eq
  obtain ⟨tp, hpl⟩ := hpl
  have hal := Op.len _ _ _ _ hop
  have zst : (stackOf (a :: as)).toArray.size = r.length + 1 := by rw [List.size_toArray, stackOf_len, List.length_cons, hal]
  have fst : ((stackOf (a :: as)).toArray.size : Int) < 2 ^ 63 := by rw [zst]; omega
  have zst2 : (stackOf (a :: as)).toArray.size ≤ sizeLine := by rw [zst, hsl]; omega
  have hst : h.IsList st (stackOf as ++ [Value.ref a]).toArray := ⟨_, stackOf_cons a as ▸ S₂.get (.tail _ (.tail _ (.tail _ (.head _)))), rfl, kst, rfl⟩
  have ha : h.get? a = some (listOf (Value.int n tn :: vs).toArray ka) := S₂.get (.tail _ (.tail _ (.tail _ (.tail _ (.head _)))))
  refine one (wpAny_Expr (MethodCall_ (Subscript_ (ev_local S₂ hstk (UnaryOp_ (wpAny_Constant_int (neg_int (list_last hst ?_))))))))
  try dsimp only
  refine list_method ha PySem.F.slot_list_append PySem.F.type_list_append ?_
  obtain ⟨ws, kw, hwo, hws, hW, hp⟩ := hw
  subst hwo
  obtain ⟨wv, hwv⟩ : ∃ wv, W[p]? = some wv := ⟨W[p], List.getElem?_eq_getElem (by omega)⟩
  have hgd : W.getD p [] = wv := by simp [List.getD, hwv]
  obtain ⟨v, hv⟩ : ∃ v, ws[p]? = some v := ⟨ws[p]'(by rw [hws.length]; omega), List.getElem?_eq_getElem _⟩
  obtain ⟨wv', tw, hwv', rfl⟩ := hws.get hv
  obtain rfl : wv = wv' := by rw [hwv] at hwv'; exact Option.some.inj hwv'
  refine callWith_method1 (wpAny_items_cons (List_ (wpAny_items_cons (wpAny_BinOp (wpAny_Constant_int (ev_local S₂ hpl (add_int (wpAny_items_cons (Subscript_ (ev_local S₂ hwrd (ev_local S₂ hpl ?_)))))))))))
  refine item_list ⟨_, S₂.get (.tail _ (.tail _ (.head _))), rfl, kw, rfl⟩ (by omega) (by omega) (x := .str (S wv) tw) (by rw [Int.toNat_natCast, List.getElem?_toArray]; exact hv) (wpAny_items_nil (new_list S₂ fun x h₃ S₃ => wpAny_items_nil ?_))
  try dsimp only
  rw [hgd, zadd_cons]
  refine add_last (t := .leaf (7 + (p : Int)) wv) S₃ hstk hwrd htre hlast hks hop ?_ zks fun h₄ news₂ S₄ J₄ => Turn.next (own := [(l, lo), (wa, _)]) S₄ J₄
  simp only [Rep]; exact ⟨x, _, _, 0, rfl, .head _⟩


def ownArgs : Stmt → List Expr
  | .Expr (.Call _ [.List es _] _ _) _ => es
  | _ => []
def ownE (i : Nat) : Expr := (ownArgs (nth (ifBody if3) 0)).getD i (.Constant (.int 0) 0 ⟨0, 0, 0, 0⟩)
def subV : Expr → Expr
  | .Subscript v _ _ => v
  | e => e
def subS : Expr → Expr
  | .Subscript _ i _ => i
  | e => e
def ownV (i : Nat) : Expr := subV (ownE i)
def ownS (i : Nat) : Expr := subS (ownE i)
set_option maxHeartbeats 4000000 in
theorem own_num {A : Around} {s : Shared} {h₀ : Heap} {L f : Addr} {cd : Value} {m : Locs} {news : Led} {p : Nat} {tp : Tok} {E : Value → Shared → Prop} {Q : Value → Shared → Prop} {e : Expr} {pos : Pos} (he : e = ownV 0) (S₂ : St h₀ L s.heap m news) (hpl : m (Str.ofString "place") = some (.int (p : Int) tp))
    (h : ∀ t1 o1 tl h' tk', St h₀ L h' m ((t1, o1) :: news) → Q (.int (leafNum p) tl) { s with heap := h', toks := tk' }) :
    wpAny (model prog w) A (eval (.Subscript e (ownS 0) pos) (envOf (fnName (stmtAt 59)) (fnScope (stmtAt 59)) L f cd)) Q E s := by
  subst he
  refine Subscript_ (Tuple_ (wpAny_items_cons (wpAny_Constant_int ?_)))
  try dsimp only
  refine wpAny_items_cons (wpAny_Constant_int ?_)
  try dsimp only
  refine wpAny_items_cons (wpAny_Constant_int ?_)
  try dsimp only
  refine wpAny_items_cons (UnaryOp_ (wpAny_Constant_int ?_))
  try dsimp only
  refine neg_int (wpAny_items_nil (new_tuple S₂ fun t1 h₃ S₃ => ?_))
  try dsimp only
  refine wpAny_BinOp (ev_local S₃ hpl (wpAny_Constant_int (mod_to (c := ((p % 4 : Nat) : Int)) (by decide) (fmod_nat p 4) ?_)))
  try dsimp only
  obtain ⟨tl, htl⟩ := leaf_menu p _ _ _ _
  refine item_tupleT (j := p % 4) ⟨_, S₃.head, rfl, 0, rfl⟩ (by omega) (by omega) (seq_nat (Nat.mod_lt _ (by decide))) htl ?_
  exact h _ _ _ _ _ S₃
set_option maxHeartbeats 4000000 in
theorem own_txt {A : Around} {s : Shared} {h₀ : Heap} {L f : Addr} {cd : Value} {m : Locs} {news : Led} {p : Nat} {tp : Tok} {E : Value → Shared → Prop} {Q : Value → Shared → Prop} {e : Expr} {pos : Pos} (he : e = ownV 1) (S₂ : St h₀ L s.heap m news) (hpl : m (Str.ofString "place") = some (.int (p : Int) tp))
    (h : ∀ t1 o1 tl h' tk', St h₀ L h' m ((t1, o1) :: news) → Q (.str (S (leafTxt p)) tl) { s with heap := h', toks := tk' }) :
    wpAny (model prog w) A (eval (.Subscript e (ownS 1) pos) (envOf (fnName (stmtAt 59)) (fnScope (stmtAt 59)) L f cd)) Q E s := by
  subst he
  refine Subscript_ (Tuple_ (wpAny_items_cons (wpAny_Constant_str ?_)))
  try dsimp only
  refine wpAny_items_cons (wpAny_Constant_str ?_)
  try dsimp only
  refine wpAny_items_cons (wpAny_Constant_str ?_)
  try dsimp only
  refine wpAny_items_cons (wpAny_Constant_str ?_)
  try dsimp only
  refine wpAny_items_nil (new_tuple S₂ fun t2 h₄ S₄ => ?_)
  try dsimp only
  refine wpAny_BinOp (wpAny_BinOp (ev_local S₄ hpl (wpAny_Constant_int (div_to (c := ((p / 4 : Nat) : Int)) (by decide) (by decide) (fdiv_nat p 4) (wpAny_Constant_int (mod_to (c := ((p / 4 % 4 : Nat) : Int)) (by decide) (fmod_nat (p / 4) 4) ?_))))))
  try dsimp only
  obtain ⟨tt, htt⟩ := text_menu p _ _ _ _
  refine item_tupleT (j := p / 4 % 4) ⟨_, S₄.head, rfl, 0, rfl⟩ (by omega) (by omega) (seq_nat (Nat.mod_lt _ (by decide))) htt ?_
  exact h _ _ _ _ _ S₄

set_option maxHeartbeats 4000000 in
theorem own_turn {A : Around} {s : Shared} {h₀ : Heap} {Q : Flow → Shared → Prop} {L f it l wa st a0 a : Addr} {cd : Value} {o lo wo : Obj} {m : Locs} {fz ops : Led} {as : List Addr} {r : Z} {n : Int} {tn : Tok} {ks : List T} {vs : List Value} {ka kst p tk : Nat} {h : Heap} 
    (S₂ : St h₀ L h m ((it, o) :: ([(l, lo), (wa, wo)] ++ ((st, listOf (stackOf (a :: as)).toArray kst) :: (((a, listOf (Value.int n tn :: vs).toArray ka) :: ops) ++ fz))))) (Wd₀ : Wd prog w mg mb D fs h₀)
    (hstk : m (Str.ofString "stack") = some (.ref st)) (hwrd : m (Str.ofString "words") = some (.ref wa)) (htre : m (Str.ofString "tree") = some (.ref a0)) (hlast : (a :: as).getLast? = some a0)
    (hks : Reps (InL fz) ks vs) (hop : Op (InL fz) [.ref a] r as ops) (hrl : r.length ≤ 3) (zks : T.sizes ks ≤ 1000) (hpl : ∃ tp, m (Str.ofString "place") = some (.int (p : Int) tp))  :
    wpAny (model prog w) A (execs (ifBody if3) (envOf (fnName (stmtAt 59)) (fnScope (stmtAt 59)) L f cd)) (Turn h₀ L it o [(l, lo), (wa, wo)] s (TJ st wa a0 (zadd (.leaf (leafNum p) (leafTxt p)) ((n, ks) :: r))) Q) NoE { s with heap := h, toks := tk } := by
  have hsl : sizeLine = 16777216 := sizeLine_eq
  obtain ⟨tp, hpl⟩ := hpl
  have hal := Op.len _ _ _ _ hop
  have zst : (stackOf (a :: as)).toArray.size = r.length + 1 := by rw [List.size_toArray, stackOf_len, List.length_cons, hal]
  have fst : ((stackOf (a :: as)).toArray.size : Int) < 2 ^ 63 := by rw [zst]; omega
  have zst2 : (stackOf (a :: as)).toArray.size ≤ sizeLine := by rw [zst, hsl]; omega
  have hst : h.IsList st (stackOf as ++ [Value.ref a]).toArray := ⟨_, stackOf_cons a as ▸ S₂.get (.tail _ (.tail _ (.tail _ (.head _)))), rfl, kst, rfl⟩
  have ha : h.get? a = some (listOf (Value.int n tn :: vs).toArray ka) := S₂.get (.tail _ (.tail _ (.tail _ (.tail _ (.head _)))))
  refine one (wpAny_Expr (MethodCall_ (Subscript_ (ev_local S₂ hstk (UnaryOp_ (wpAny_Constant_int (neg_int (list_last hst ?_))))))))
  try dsimp only
  refine list_method ha PySem.F.slot_list_append PySem.F.type_list_append ?_
  obtain ⟨e1, he1⟩ : ∃ e, e = ownV 0 := ⟨_, rfl⟩
  obtain ⟨e2, he2⟩ : ∃ e, e = ownV 1 := ⟨_, rfl⟩
  change wpAny _ _ (callWith _ _ _ (backTo _ (starEach [Expr.List [Expr.Subscript (ownV 0) (ownS 0) _, Expr.Subscript (ownV 1) (ownS 1) _] _] _)) _) _ _ _
  rw [← he1, ← he2]
  try dsimp only
  refine callWith_method1 (wpAny_items_cons (List_ (wpAny_items_cons (own_num he1 S₂ hpl fun t1 o1 tl h₃ tk₃ S₃ => ?_))))
  try dsimp only
  refine wpAny_items_cons (own_txt he2 S₃ hpl fun t2 o2 tt h₄ tk₄ S₄ => ?_)
  try dsimp only
  refine wpAny_items_nil (new_list S₄ fun x h₅ S₅ => wpAny_items_nil ?_)
  have S₆ := S₅.sub (.cons₂ _ (.cons _ (.cons _ (List.Sublist.refl _))))
  try dsimp only
  rw [zadd_cons]
  refine add_last (t := .leaf (leafNum p) (leafTxt p)) S₆ hstk hwrd htre hlast hks hop ?_ zks fun h₇ news₂ S₇ J₇ => Turn.next (own := [(l, lo), (wa, wo)]) S₇ J₇
  simp only [Rep]; exact ⟨x, _, _, 0, rfl, .head _⟩


set_option maxHeartbeats 4000000 in
theorem end_turn {A : Around} {s : Shared} {h₀ : Heap} {Q : Flow → Shared → Prop} {L f it l wa st a0 a : Addr} {cd : Value} {o lo wo : Obj} {m : Locs} {fz ops : Led} {as : List Addr} {r : Z} {n : Int} {tn : Tok} {ks : List T} {vs : List Value} {ka kst p tk : Nat} {h : Heap} 
    (S₂ : St h₀ L h m ((it, o) :: ([(l, lo), (wa, wo)] ++ ((st, listOf (stackOf (a :: as)).toArray kst) :: (((a, listOf (Value.int n tn :: vs).toArray ka) :: ops) ++ fz))))) (Wd₀ : Wd prog w mg mb D fs h₀)
    (hstk : m (Str.ofString "stack") = some (.ref st)) (hwrd : m (Str.ofString "words") = some (.ref wa)) (htre : m (Str.ofString "tree") = some (.ref a0)) (hlast : (a :: as).getLast? = some a0)
    (hks : Reps (InL fz) ks vs) (hop : Op (InL fz) [.ref a] r as ops) (hrl : r.length ≤ 3) (zks : T.sizes ks ≤ 1000) (hpl : ∃ tp, m (Str.ofString "place") = some (.int (p : Int) tp))  :
    wpAny (model prog w) A (execs (ifElse if3) (envOf (fnName (stmtAt 59)) (fnScope (stmtAt 59)) L f cd)) (Turn h₀ L it o [(l, lo), (wa, wo)] s (TJ st wa a0 (zadd (.leaf 0 []) ((n, ks) :: r))) Q) NoE { s with heap := h, toks := tk } := by
  have hsl : sizeLine = 16777216 := sizeLine_eq
  obtain ⟨tp, hpl⟩ := hpl
  have hal := Op.len _ _ _ _ hop
  have zst : (stackOf (a :: as)).toArray.size = r.length + 1 := by rw [List.size_toArray, stackOf_len, List.length_cons, hal]
  have fst : ((stackOf (a :: as)).toArray.size : Int) < 2 ^ 63 := by rw [zst]; omega
  have zst2 : (stackOf (a :: as)).toArray.size ≤ sizeLine := by rw [zst, hsl]; omega
  have hst : h.IsList st (stackOf as ++ [Value.ref a]).toArray := ⟨_, stackOf_cons a as ▸ S₂.get (.tail _ (.tail _ (.tail _ (.head _)))), rfl, kst, rfl⟩
  have ha : h.get? a = some (listOf (Value.int n tn :: vs).toArray ka) := S₂.get (.tail _ (.tail _ (.tail _ (.tail _ (.head _)))))
  refine one (wpAny_Expr (MethodCall_ (Subscript_ (ev_local S₂ hstk (UnaryOp_ (wpAny_Constant_int (neg_int (list_last hst ?_))))))))
  try dsimp only
  refine list_method ha PySem.F.slot_list_append PySem.F.type_list_append ?_
  refine callWith_method1 (wpAny_items_cons (List_ (wpAny_items_cons (wpAny_Constant_int (wpAny_items_cons (wpAny_Constant_str (wpAny_items_nil (new_list S₂ fun x h₃ S₃ => wpAny_items_nil ?_))))))))
  try dsimp only
  rw [zadd_cons]
  refine add_last (t := .leaf 0 []) S₃ hstk hwrd htre hlast hks hop ?_ zks fun h₄ news₂ S₄ J₄ => Turn.next (own := [(l, lo), (wa, wo)]) S₄ J₄
  simp only [Rep]
  have e : Str.ofString "" = S [] := by decide +kernel
  rw [e]
  exact ⟨x, _, _, 0, rfl, .head _⟩


set_option maxHeartbeats 4000000 in
theorem tree_turn {A : Around} {s : Shared} {h₀ : Heap} {Q : Flow → Shared → Prop} {L f it l wa st a0 : Addr} {cd : Value} {o lo : Obj} {m : Locs} {news : Led} {z : Z} {W : List (List Nat)} {ws : List Value} {kw k tk : Nat} {tv : Tok} {h : Heap}
    (S₀ : St h₀ L h (fun y => if y = Str.ofString "step" then some (.int (k : Int) tv) else m y) ((it, o) :: ([(l, lo), (wa, listOf ws.toArray kw)] ++ news))) (Wd₀ : Wd prog w mg mb D fs h₀) (hJ : TJ st wa a0 z m news) (hz : z ≠ []) (hz4 : z.length ≤ 4) (hzs : zsize z ≤ 1000)
    (hk : k < 384) (hws : Strs ws W) (hW : W.length = 48) :
    wpAny (model prog w) A (execs (loopBody 59 3) (envOf (fnName (stmtAt 59)) (fnScope (stmtAt 59)) L f cd)) (Turn h₀ L it o [(l, lo), (wa, listOf ws.toArray kw)] s (TJ st wa a0 (zstep W z k)) Q) NoE { s with heap := h, toks := tk } := by
  obtain ⟨hstk, hwrd, htre, as, ops, fz, kst, hop, hlast, rfl⟩ := hJ
  cases z with
  | nil => exact absurd rfl hz
  | cons fr r =>
  obtain ⟨n, ks⟩ := fr
  simp only [Op, List.append_nil] at hop
  obtain ⟨a, as, ops, tn, vs, ka, rfl, rfl, hks, hop⟩ := hop
  simp only [zsize] at hzs
  have zks : T.sizes ks ≤ 1000 := by omega
  have hrl : r.length ≤ 3 := by simp only [List.length_cons] at hz4; omega
  have hp48 : k / 8 < 48 := by omega
  have hk8 : k % 8 < 8 := Nat.mod_lt _ (by decide)
  -- kind, place
  refine wpAny_execs_cons (wpAny_Assign_Name (wpAny_BinOp (ev_local S₀ rfl (wpAny_Constant_int (mod_to (c := ((k % 8 : Nat) : Int)) (by decide) (fmod_nat k 8) ?_)))))
  refine st_local S₀ fun h₁ tk₁ l₁ S₁ => ?_
  try dsimp only at S₁ ⊢
  refine wpAny_execs_cons (wpAny_Assign_Name (wpAny_BinOp (ev_local S₁ rfl (wpAny_Constant_int (div_to (c := ((k / 8 : Nat) : Int)) (by decide) (by decide) (fdiv_nat k 8) ?_)))))
  refine st_local S₁ fun h₂ tk₂ l₂ S₂ => ?_
  try dsimp only at S₂ ⊢
  clear S₀ S₁
  unfold zstep
  generalize hkd : k % 8 = kd at hk8 S₂ ⊢
  generalize hpl : k / 8 = p at hp48 S₂ ⊢
  by_cases c0 : kd = 0
  · rw [if_pos c0]
    refine one (wpAny_If (wpAny_isTrue_Compare1 (ev_local S₂ rfl (wpAny_Constant_int (eq_int (wpAny_truthy_bool (yesB (by simp [c0]) ?_)))))))
    exact pop_turn S₂ Wd₀ hstk hwrd htre hlast hks hop hrl zks ⟨_, rfl⟩
  · rw [if_neg c0]
    refine one (wpAny_If (wpAny_isTrue_Compare1 (ev_local S₂ rfl (wpAny_Constant_int (eq_int (wpAny_truthy_bool (noB (by simp; omega) ?_)))))))
    try dsimp only
    by_cases c3 : kd < 3
    · rw [if_pos c3]
      refine one (wpAny_If (wpAny_isTrue_Compare1 (ev_local S₂ rfl (wpAny_Constant_int (lt_int (wpAny_truthy_bool (yesB (decide_eq_true (by omega)) ?_)))))))
      exact push_turn S₂ Wd₀ hstk hwrd htre hlast hks hop hrl zks ⟨_, rfl⟩
    · rw [if_neg c3]
      refine one (wpAny_If (wpAny_isTrue_Compare1 (ev_local S₂ rfl (wpAny_Constant_int (lt_int (wpAny_truthy_bool (noB (decide_eq_false (by omega)) ?_)))))))
      try dsimp only
      by_cases c6 : kd < 6
      · rw [if_pos c6]
        refine one (wpAny_If (wpAny_isTrue_Compare1 (ev_local S₂ rfl (wpAny_Constant_int (lt_int (wpAny_truthy_bool (yesB (decide_eq_true (by omega)) ?_)))))))
        exact op_turn S₂ Wd₀ hstk hwrd htre hlast hks hop hrl zks ⟨_, rfl⟩ ⟨ws, kw, rfl, hws, hW, hp48⟩
      · rw [if_neg c6]
        refine one (wpAny_If (wpAny_isTrue_Compare1 (ev_local S₂ rfl (wpAny_Constant_int (lt_int (wpAny_truthy_bool (noB (decide_eq_false (by omega)) ?_)))))))
        try dsimp only
        by_cases c7 : kd = 6
        · rw [if_pos c7]
          refine one (wpAny_If (wpAny_isTrue_Compare1 (ev_local S₂ rfl (wpAny_Constant_int (eq_int (wpAny_truthy_bool (yesB (by simp [c7]) ?_)))))))
          exact own_turn S₂ Wd₀ hstk hwrd htre hlast hks hop hrl zks ⟨_, rfl⟩
        · rw [if_neg c7]
          refine one (wpAny_If (wpAny_isTrue_Compare1 (ev_local S₂ rfl (wpAny_Constant_int (eq_int (wpAny_truthy_bool (noB (by simp; omega) ?_)))))))
          exact end_turn S₂ Wd₀ hstk hwrd htre hlast hks hop hrl zks ⟨_, rfl⟩
end

/-! part C11 -/
def opWords : List (List Nat) := [[40], [41], [91], [93], [58], [44], [59], [43], [45], [42], [47], [124], [38], [60], [62], [61], [46], [37], [123], [125], [61, 61], [33, 61], [60, 61], [62, 61], [126], [94], [60, 60], [62, 62], [42, 42], [43, 61], [45, 61], [42, 61], [47, 61], [37, 61], [38, 61], [124, 61], [94, 61], [60, 60, 61], [62, 62, 61], [42, 42, 61], [47, 47], [47, 47, 61], [64], [64, 61], [45, 62], [46, 46, 46], [58, 61], [33]]
def opText : Str := Str.ofString "( ) [ ] : , ; + - * / | & < > = . % { } == != <= >= ~ ^ << >> ** += -= *= /= %= &= |= ^= <<= >>= **= // //= @ @= -> ... := !"
theorem op_split : Txt.split opText (Str.ofString " ") = opWords.map S := by decide +kernel
theorem strs_of : ∀ (ls : List (List Nat)) (l : List (Str × Tok)), l.map (·.1) = ls.map S → Strs (strValues l) ls
  | [], l, h => by
    have : l = [] := by simpa using h
    subst this; exact ⟨[], rfl, rfl⟩
  | x :: r, [], h => by simp at h
  | x :: r, (y, t) :: l, h => by
    simp only [List.map_cons, List.cons.injEq] at h
    obtain ⟨ts, h1, h2⟩ := strs_of r l h.2
    refine ⟨t :: ts, by simp [h1], ?_⟩
    show Value.str y t :: strValues l = _
    rw [h2, h.1]
    rfl

def stepsOf (ns : List Int) : List Nat := [1, 43, 70, 7, 3, 0] ++ (ns.take 10).map fun n => (n.fmod 384).toNat
theorem fmod384 (n : Int) : n.fmod 384 = ((n.fmod 384).toNat : Int) := by
  have h : 0 ≤ n.fmod 384 := Int.fmod_nonneg_of_pos _ (by decide)
  omega
theorem steps_lt (ns : List Int) : ∀ k ∈ stepsOf ns, k < 384 := by
  intro k hk
  rcases List.mem_append.mp hk with h | h
  · simp at h; omega
  · obtain ⟨n, _, rfl⟩ := List.mem_map.mp h
    have h1 : n.fmod 384 < 384 := Int.fmod_lt_of_pos _ (by decide)
    have h2 := fmod384 n
    omega
theorem steps_len (ns : List Int) : (stepsOf ns).length ≤ 16 := by
  simp [stepsOf]; omega

section
variable {prog : Program} {w : World} {mg mb : Locs} {D : List (PyData × PyData)} {fs : Fs} {A : Around} {E : Value → Shared → Prop} {s : Shared}

set_option maxHeartbeats 4000000 in
theorem law_tree {sc : Addr} {vs : List Value} {ns : List Int} {Q : Value → Shared → Prop} (Wd₀ : Wd prog w mg mb D fs s.heap) (hsc : s.heap.IsList sc vs.toArray) (hI : IntsAre vs ns) (hn : ns.length ≤ 63) (hT : TabOk D opWords) (hh : A.handled = none) (hd : A.depth < recursionLimit)
    (h : ∀ h' tk a0 fz kids, Ext s.heap h' fz → Rep (InL fz) (.row 256 kids) (.ref a0) → T.oks D kids → T.highs kids ≤ 4 → (T.text (.row 256 kids)).length ≤ 2 ^ 14 → Q (.ref a0) { s with heap := h', toks := tk }) :
    wpAny (model prog w) A (call (.ref fs.b) [.ref sc]) Q E s := by
  have hsl : sizeLine = 16777216 := sizeLine_eq
  have hvl := hI.length
  have zv : vs.toArray.size ≤ sizeLine := by rw [List.size_toArray, hvl, hsl]; omega
  have zt : (vs.take 10).toArray.size ≤ sizeLine := by rw [List.size_toArray, List.length_take, hsl]; omega
  refine call_def (binds := [(Str.ofString "script", .ref sc)]) Wd₀.fB Wd₀.gl.lim hd (fun _ _ _ => rfl) (locs rfl) (fun L cd h₁ tk S₁ => ?_)
  try dsimp only
  -- words
  refine wpAny_execs_cons (wpAny_Assign_Name (MethodCall_ (wpAny_Constant_str (GM.split ?_))))
  refine callWith_method1 (wpAny_items_cons (wpAny_Constant_str (wpAny_items_nil ?_)))
  refine splitN1A (s := ⟨h₁, _, _, _, _⟩) S₁.fr S₁.nw (by decide +kernel) (fun l h₂ tk₂ hl _ _ hlist F₂ N₂ => ?_) (by rw [hsl]; decide +kernel)
  have hws : Strs (strValues l) opWords := strs_of opWords l (hl.trans op_split)
  have S₂ : St s.heap L h₂ _ ((h₁.objs.size, listOf (strValues l).toArray 0) :: []) := ⟨F₂, N₂, nd_cons S₁.nd fun p hp => get_lt (S₁.nw p hp).1⟩
  generalize h₁.objs.size = wa at S₂ ⊢
  generalize strValues l = ws at S₂ hws
  clear F₂ N₂ hlist hl
  refine st_local S₂ fun h₃ tk₃ l₃ S₃ => ?_
  try dsimp only
  -- tree, stack
  refine wpAny_execs_cons (wpAny_Assign_Name (List_ (wpAny_items_cons (wpAny_Constant_int (wpAny_items_nil (new_list S₃ fun a0 h₄ S₄ => ?_))))))
  refine st_local S₄ fun h₅ tk₅ l₅ S₅ => ?_
  try dsimp only
  refine wpAny_execs_cons (wpAny_Assign_Name (List_ (wpAny_items_cons (ev_local S₅ rfl (wpAny_items_nil (new_list S₅ fun st h₆ S₆ => ?_))))))
  refine st_local S₆ fun h₇ tk₇ l₇ S₇ => ?_
  try dsimp only
  clear S₂ S₃ S₄ S₅ S₆
  -- the steps
  refine wpAny_execs_cons (wpAny_For (wpAny_BinOp (List_ (wpAny_items_cons (wpAny_Constant_int (wpAny_items_cons (wpAny_Constant_int (wpAny_items_cons (wpAny_Constant_int (wpAny_items_cons (wpAny_Constant_int (wpAny_items_cons (wpAny_Constant_int (wpAny_items_cons (wpAny_Constant_int (wpAny_items_nil (new_list S₇ fun l6 h₈ S₈ => ?_)))))))))))))))))
  try dsimp only
  refine comp_list (by decide) rfl (by decide) (Subscript_ (ev_local S₈ rfl (wpAny_Slice ?_)))
  refine wpAny_evalPart_none (wpAny_evalPart_some (wpAny_Constant_int (wpAny_evalPart_none ?_)))
  refine list_slice (s := ⟨h₈, _, _, _, _⟩) (zs := (vs.take 10).toArray) S₈ (hsc.at fun o e => S₈.fr.keep _ o e) .none (IsPart.int 10 _) ?_ zv fun l₉ h₉ S₉ => ?_
  · exact (slicePick_upto' _ 10).trans (by simp)
  try dsimp only
  refine comp_core (fun i ys fz => fz = [] ∧ IntsAre ys (((ns.take 10).take i).map fun n => n.fmod 384)) hh ⟨_, S₉.head, rfl, 0, rfl⟩ zt ⟨rfl, .nil⟩ (by decide) rfl rfl ?_ ?_
  · rintro C i v ys fz hc tkc mC D₁ k I o hv ⟨rfl, hys⟩ hx S₃
    obtain ⟨n, t, rfl, hn'⟩ := (hI.take 10).at i v (by rw [List.getElem?_toArray] at hv; exact hv)
    refine wpAny_BinOp (ev_local (env := compEnv _ C _) S₃ hx (wpAny_Constant_int (mod_to (c := n.fmod 384) (by decide) rfl ?_)))
    refine ⟨hc, _, [], rfl, S₃, rfl, ?_⟩
    have e : ((ns.take 10).take (i + 1)).map (fun n => n.fmod 384) = ((ns.take 10).take i).map (fun n => n.fmod 384) ++ [n.fmod 384] := by rw [List.take_add_one (l := ns.take 10), hn']; simp
    rw [e]
    exact hys.append (.cons _ _ .nil)
  rintro D₁ k₁ ys fz h₁₀ tk₁₀ ⟨rfl, hys⟩ X₁₀
  have e10 : (ns.take 10).take ((vs.take 10).toArray.size) = ns.take 10 := by
    rw [List.size_toArray, List.length_take, hvl]
    exact List.take_of_length_le (by rw [List.length_take]; exact Nat.le_refl _)
  rw [e10] at hys
  have hyl := hys.length
  rw [List.length_map, List.length_take] at hyl
  have S₁₀ := S₉.ext X₁₀
  try dsimp only
  have S₁₁ := S₁₀
  refine list_cat (zs := (Value.int 1 tk₇ :: Value.int 43 (tk₇ + 1) :: Value.int 70 (tk₇ + 1 + 1) :: Value.int 7 (tk₇ + 1 + 1 + 1) :: Value.int 3 (tk₇ + 1 + 1 + 1 + 1) :: Value.int 0 (tk₇ + 1 + 1 + 1 + 1 + 1) :: ys).toArray) S₁₀ ⟨_, S₁₀.get (.tail _ (.tail _ (.head _))), rfl, 0, rfl⟩ ⟨_, S₁₀.head, rfl, k₁, rfl⟩ (by simp) ?_ fun DD h₁₂ S₁₂ => ?_
  · rw [List.size_toArray, List.size_toArray, hyl, hsl]; simp; omega
  generalize hst : (Value.int 1 tk₇ :: Value.int 43 (tk₇ + 1) :: Value.int 70 (tk₇ + 1 + 1) :: Value.int 7 (tk₇ + 1 + 1 + 1) :: Value.int 3 (tk₇ + 1 + 1 + 1 + 1) :: Value.int 0 (tk₇ + 1 + 1 + 1 + 1 + 1) :: ys) = sv at S₁₂
  have hsv : IntsAre sv ((stepsOf ns).map Int.ofNat) := by
    subst hst
    have e : (stepsOf ns).map Int.ofNat = 1 :: 43 :: 70 :: 7 :: 3 :: 0 :: (ns.take 10).map fun n => n.fmod 384 := by
      simp only [stepsOf, List.map_append, List.map_map, List.map_cons, List.map_nil, List.cons_append, List.nil_append]
      congr 6
      refine List.map_congr_left fun n _ => ?_
      exact (fmod384 n).symm
    rw [e]
    exact .cons _ _ (.cons _ _ (.cons _ _ (.cons _ _ (.cons _ _ (.cons _ _ hys)))))
  have hsvl := hsv.length
  rw [List.length_map] at hsvl
  have S₁₃ : St s.heap L h₁₂ _ ([(DD, listOf sv.toArray 0), (wa, listOf ws.toArray 0)] ++ [(st, listOf (stackOf [a0]).toArray 0), (a0, listOf (Value.int 256 tk₃ :: ([] ++ [])).toArray 0)]) :=
    (S₁₂.sub (.cons₂ _ (.cons _ (.cons _ (.cons _ (List.Sublist.refl _)))))).perm (List.Perm.cons _ (List.perm_append_comm (l₁ := [_, _]) (l₂ := [_])))
  clear S₁₂ S₁₁ S₁₀ S₉ S₈ S₇ X₁₀ hst hys hyl e10
  try dsimp only
  refine loop_list (own := [(DD, listOf sv.toArray 0), (wa, listOf ws.toArray 0)]) (fun i m news => TJ st wa a0 (((stepsOf ns).take i).foldl (zstep opWords) [(256, [])]) m news) hh S₁₃ (fun h _ ho => ⟨_, ho _ (.head _), rfl, 0, rfl⟩)
    ⟨rfl, rfl, rfl, [a0], [(a0, listOf (Value.int 256 tk₃ :: ([] ++ [])).toArray 0)], [], 0, ?_, rfl, rfl⟩ ?_ ?_
  · simp only [List.take_zero, List.foldl_nil, Op]
    exact ⟨a0, [], [], tk₃, [], 0, rfl, rfl, by simp [Reps], rfl, rfl⟩
  · rintro i v m₁ news₁ hi tki it o hv hJ htk S₀
    obtain ⟨n, t, rfl, hn'⟩ := hsv.at i v (by rw [List.getElem?_toArray] at hv; exact hv)
    rw [List.getElem?_map] at hn'
    obtain ⟨k, hk, rfl⟩ := Option.map_eq_some_iff.mp hn'
    have hinv := zrun_inv hT ((stepsOf ns).take i) (fun k hk => steps_lt ns k (List.mem_of_mem_take hk)) 0 _ (zstart_inv D)
    have hl16 := steps_len ns
    have hsz := hinv.size
    rw [List.length_take] at hsz
    have e : ((stepsOf ns).take (i + 1)).foldl (zstep opWords) [(256, [])] = zstep opWords (((stepsOf ns).take i).foldl (zstep opWords) [(256, [])]) k := by
      rw [List.take_add_one, hk]; simp
    rw [e]
    exact tree_turn S₀ Wd₀ hJ hinv.ne hinv.len (by omega) (steps_lt ns k (List.mem_of_getElem? hk)) hws hT.len
  · rintro m₁ news₁ hi tki hJ S₀
    rw [List.size_toArray, hsvl, List.take_length] at hJ
    obtain ⟨kids, ek, h1, h2, h3⟩ := tree_ok hT (stepsOf ns) (steps_lt ns) (steps_len ns)
    obtain ⟨hstk, hwrd, htre, as, ops, fz, kst, hop, hlast, rfl⟩ := hJ
    refine wpAny_execs_cons (wpAny_Return_some (ev_local S₀ htre ?_))
    refine h hi tki a0 _ kids S₀.leave ?_ h1 h2 h3
    rw [← ek]
    refine Op.close (R := InL fz) ?_ _ [] [] as ops a0 hop ?_ (by simp [Reps]) hlast
    · intro a o q
      exact .tail _ (.tail _ (.tail _ (List.mem_append_right _ q)))
    · intro p hp
      exact .tail _ (.tail _ (.tail _ (List.mem_append_left _ hp)))
end

/-! part C12 -/
open PySem.SeqAt (EqAt RcAt)

/-! two lists that bear one tree are equal -/
section
variable {s : Shared}
theorem eq_of_items {A : Around} {a b : Addr} {xs ys : List Value} {k j : Nat} (h1 : s.heap.get? a = some (listOf xs.toArray k)) (h2 : s.heap.get? b = some (listOf ys.toArray j)) (hl : xs.length = ys.length) (hu : A.units < cLine)
    (he : ∀ i (h1 : i < xs.length) (h2 : i < ys.length), EqAt A.in1 s xs[i] ys[i] true) : RcAt A s (.ref a) (.ref b) true := by
  have := RcAt.lists (A := A) (s := s) (l := a) (b := b) (items := xs.toArray) (items2 := ys.toArray) (e := fun _ => true) ⟨_, h1, rfl, k, rfl⟩ ⟨_, h2, rfl, j, rfl⟩ (by simpa using hl) hu
    (fun i h1 h2 => by
      have := he i (by simpa using h1) (by simpa using h2)
      simpa using this)
  have e : (List.range xs.toArray.size).all (fun _ => true) = true := by simp
  rw [e] at this
  exact this
theorem eq_refs {A : Around} {a b : Addr} (h : RcAt A s (.ref a) (.ref b) true) : EqAt A s (.ref a) (.ref b) true := by
  by_cases e : a = b
  · subst e; exact EqAt.same _
  · exact EqAt.of_refs e h
theorem eq_ints {A : Around} (n : Int) (t u : Tok) : EqAt A s (.int n t) (.int n u) true := by
  have := EqAt.int_int (A := A) (s := s) n t n u
  rwa [beq_self_eq_true] at this
theorem eq_strs {A : Around} (x : Str) (t u : Tok) : EqAt A s (.str x t) (.str x u) true := by
  have := EqAt.str_str (A := A) (s := s) x t x u
  rwa [beq_self_eq_true] at this
theorem eq_cons {A : Around} {x y : Value} {xs ys : List Value} (h0 : EqAt A s x y true) (h : ∀ i (h1 : i < xs.length) (h2 : i < ys.length), EqAt A s xs[i] ys[i] true) : ∀ i (h1 : i < (x :: xs).length) (h2 : i < (y :: ys).length), EqAt A s (x :: xs)[i] (y :: ys)[i] true := by
  intro i h1 h2
  cases i with
  | zero => exact h0
  | succ i => exact h i (by simpa using h1) (by simpa using h2)
theorem eq_nil {A : Around} : ∀ i (h1 : i < ([] : List Value).length) (h2 : i < ([] : List Value).length), EqAt A s ([] : List Value)[i] ([] : List Value)[i] true := by
  intro i h1; simp at h1

mutual
theorem rep_rc : ∀ (t : T) (A : Around) (a b : Addr), Rep (InH s.heap) t (.ref a) → Rep (InH s.heap) t (.ref b) → A.units + T.high t < cLine → RcAt A s (.ref a) (.ref b) true
  | .leaf n x, A, a, b, h1, h2, hu => by
    simp only [Rep] at h1 h2
    obtain ⟨a', t1, u1, k1, e1, h1⟩ := h1
    obtain ⟨b', t2, u2, k2, e2, h2⟩ := h2
    cases e1; cases e2
    exact eq_of_items (xs := [_, _]) (ys := [_, _]) h1 h2 rfl (by omega) (eq_cons (eq_ints _ _ _) (eq_cons (eq_strs _ _ _) eq_nil))
  | .row n kids, A, a, b, h1, h2, hu => by
    simp only [Rep] at h1 h2
    simp only [T.high] at hu
    obtain ⟨a', t1, vs, k1, e1, h1, r1⟩ := h1
    obtain ⟨b', t2, ws, k2, e2, h2, r2⟩ := h2
    cases e1; cases e2
    exact eq_of_items h1 h2 (by simp [r1.length, r2.length]) (by omega) (eq_cons (eq_ints _ _ _) (reps_eq kids A.in1 vs ws r1 r2 (by show A.units + 1 + _ < _; omega)))
theorem reps_eq : ∀ (ts : List T) (A : Around) (vs ws : List Value), Reps (InH s.heap) ts vs → Reps (InH s.heap) ts ws → A.units + T.highs ts < cLine → ∀ i (h1 : i < vs.length) (h2 : i < ws.length), EqAt A s vs[i] ws[i] true
  | [], A, vs, ws, h1, h2, hu => by
    simp only [Reps] at h1 h2
    subst h1; subst h2
    exact eq_nil
  | t :: ts, A, vs, ws, h1, h2, hu => by
    simp only [Reps] at h1 h2
    simp only [T.highs] at hu
    obtain ⟨v, r, rfl, p1, q1⟩ := h1
    obtain ⟨v', r', rfl, p2, q2⟩ := h2
    obtain ⟨a, _, _, _, rfl, _⟩ := p1.head
    obtain ⟨b, _, _, _, rfl, _⟩ := p2.head
    exact eq_cons (eq_refs (rep_rc t A a b p1 p2 (by omega))) (reps_eq ts A r r' q1 q2 (by omega))
end
end

section
variable {prog : Program} {w : World} {mg mb : Locs} {D : List (PyData × PyData)} {fs : Fs} {A : Around} {E : Value → Shared → Prop} {s : Shared}

mutual
theorem cut_high : ∀ t : T, T.high (T.cut t) ≤ T.high t
  | .leaf _ _ => by simp [T.cut, T.high]
  | .row _ kids => by have := cuts_highs kids; simp only [T.cut, T.high]; omega
theorem cuts_highs : ∀ ts : List T, T.highs (T.cuts ts) ≤ T.highs ts
  | [] => by simp [T.cuts, T.highs]
  | t :: r => by
    have h1 := cut_high t
    have h2 := cuts_highs r
    simp only [T.cuts]
    split <;> simp only [T.highs] <;> omega
end

set_option maxHeartbeats 4000000 in
theorem law_body {h₀ h₁ : Heap} {L f sc : Addr} {cd : Value} {m : Locs} {tk : Nat} {vs : List Value} {ns : List Int} {Q : Flow → Shared → Prop} (S₁ : St h₀ L h₁ m []) (hm : m (Str.ofString "script") = some (.ref sc)) (Wd₀ : Wd prog w mg mb D fs h₀)
    (hsc : h₀.IsList sc vs.toArray) (hI : IntsAre vs ns) (hn : ns.length ≤ 63) (hT : TabOk D opWords) (hh : A.handled = none) (hd : A.depth < 800) (hu : A.units < 1000)
    (h : ∀ h' tk m', Fr h₀ L h' m' → Q (.ret (.bool true)) { s with heap := h', toks := tk }) :
    wpAny (model prog w) A (execs (fnBody (stmtAt 63)) (envOf (fnName (stmtAt 63)) (fnScope (stmtAt 63)) L f cd)) Q E { s with heap := h₁, toks := tk } := by
  have dA : A.depth < recursionLimit := lim900 (by omega)
  refine wpAny_execs_cons (wpAny_Assign_Name (Call_ (ev_global S₁ Wd₀.gl.g Wd₀.gB ?_)))
  have W₁ := Wd₀.keeps S₁.fr.keep
  refine call_with W₁.fB (wpAny_items_cons (ev_local S₁ hm (wpAny_items_nil ⟨fun _ e => e, ?_⟩)))
  refine law_tree W₁ (hsc.at fun o e => S₁.fr.keep _ o e) hI hn hT hh dA fun h₂ tk₂ a0 fz kids X₂ hrep hok hhi hlen => ?_
  have S₂ := S₁.ext X₂
  try dsimp only
  refine st_local S₂ fun h₃ tk₃ l₃ S₃ => ?_
  try dsimp only
  clear S₂ S₁
  have W₃ := Wd₀.keeps S₃.fr.keep
  have R₃ : Rep (InH h₃) (.row 256 kids) (.ref a0) := Rep.mono (fun a o q => S₃.get (List.mem_append_left _ q)) _ _ hrep
  refine wpAny_execs_cons (wpAny_Return_some (wpAny_Compare1 (Call_ (ev_global S₃ Wd₀.gl.g Wd₀.gR ?_))))
  refine call_with W₃.fR (wpAny_items_cons (wpAny_Constant_int (wpAny_items_cons (Call_ (ev_global S₃ Wd₀.gl.g Wd₀.gW ?_)))))
  refine call_with W₃.fW (wpAny_items_cons (ev_local S₃ rfl (wpAny_items_nil ⟨fun _ e => e, ?_⟩)))
  try dsimp only
  refine written 256 kids _ _ _ _ _ W₃ R₃ hok hh (by omega) hlen fun h₄ tk₄ u₄ X₄ => wpAny_items_nil ⟨Wd₀.fR.same S₃.fr.keep (fun b o e => X₄.keep _ _ (S₃.fr.keep _ _ e)), ?_⟩
  have S₄ := S₃.ext X₄
  try dsimp only
  rw [row_text 256 0 kids]
  refine read_ok kids _ _ _ _ _ _ _ (Wd₀.keeps S₄.fr.keep) hok hh (by omega) (by rw [row_text 0 256 kids]; exact hlen) fun h₅ tk₅ r fz₅ X₅ hr => ?_
  have S₅ := S₄.ext X₅
  try dsimp only
  refine Call_ (ev_global S₅ Wd₀.gl.g Wd₀.gU ?_)
  refine call_with ((Wd₀.keeps S₅.fr.keep).fU) (wpAny_items_cons (ev_local S₅ rfl (wpAny_items_nil ⟨fun _ e => e, ?_⟩)))
  have k35 : ∀ b o, h₃.get? b = some o → h₅.get? b = some o := fun b o e => X₅.keep _ _ (X₄.keep _ _ e)
  refine until_end 256 kids _ _ _ _ _ (InH h₅) (Wd₀.keeps S₅.fr.keep) (fun _ _ e => e) (Rep.mono (fun a o q => k35 _ _ q) _ _ R₃) hok hh (by omega) hlen fun h₆ tk₆ r₆ fz₆ X₆ hr₆ => ?_
  have S₆ := S₅.ext X₆
  try dsimp only
  have hr₅ : Rep (InH h₆) (.row 256 (T.cuts kids)) r := Rep.mono (fun a o q => X₆.keep _ _ (X₅.new _ q).1) _ _ hr
  have hr₇ : Rep (InH h₆) (.row 256 (T.cuts kids)) r₆ := Rep.mono (fun a o q => q.elim (fun q => X₆.keep _ _ q) fun q => (X₆.new _ q).1) _ _ hr₆
  obtain ⟨a, _, _, _, rfl, _⟩ := hr₅.head
  obtain ⟨b, _, _, _, rfl, _⟩ := hr₇.head
  have hch := cuts_highs kids
  refine cmp_ofEq (rep_rc (s := ⟨h₆, _, _, _, _⟩) (.row 256 (T.cuts kids)) A a b hr₅ hr₇ (by simp only [T.high]; unfold cLine; omega) prog w E _ ?_)
  exact h h₆ tk₆ _ S₆.fr
end

/-! part C13 -/
def tabD0 : List (Str × PyData) := [(Str.ofString "!", .int 54), (Str.ofString "!=", .int 28), (Str.ofString "%", .int 24), (Str.ofString "%=", .int 40), (Str.ofString "&", .int 19), (Str.ofString "&=", .int 41), (Str.ofString "(", .int 7), (Str.ofString ")", .int 8), (Str.ofString "*", .int 16), (Str.ofString "**", .int 35), (Str.ofString "**=", .int 46), (Str.ofString "*=", .int 38), (Str.ofString "+", .int 14), (Str.ofString "+=", .int 36), (Str.ofString ",", .int 12), (Str.ofString "-", .int 15), (Str.ofString "-=", .int 37), (Str.ofString "->", .int 51), (Str.ofString ".", .int 23), (Str.ofString "...", .int 52), (Str.ofString "/", .int 17), (Str.ofString "//", .int 47), (Str.ofString "//=", .int 48), (Str.ofString "/=", .int 39), (Str.ofString ":", .int 11), (Str.ofString ":=", .int 53), (Str.ofString ";", .int 13), (Str.ofString "<", .int 20), (Str.ofString "<<", .int 33), (Str.ofString "<<=", .int 44), (Str.ofString "<=", .int 29), (Str.ofString "=", .int 22), (Str.ofString "==", .int 27), (Str.ofString ">", .int 21), (Str.ofString ">=", .int 30), (Str.ofString ">>", .int 34), (Str.ofString ">>=", .int 45), (Str.ofString "@", .int 49), (Str.ofString "@=", .int 50), (Str.ofString "[", .int 9), (Str.ofString "]", .int 10), (Str.ofString "^", .int 32), (Str.ofString "^=", .int 43), (Str.ofString "{", .int 25), (Str.ofString "|", .int 18), (Str.ofString "|=", .int 42), (Str.ofString "}", .int 26), (Str.ofString "~", .int 31)]
def tabD : List (PyData × PyData) := tabD0.map fun p => (PyData.str p.1, p.2)
def isInt (o : Option PyData) (n : Int) : Bool := match o with
  | some (.int m) => m == n
  | _ => false
theorem isInt_eq {o : Option PyData} {n : Int} (h : isInt o n = true) : o = some (.int n) := by
  unfold isInt at h
  split at h
  · rw [beq_iff_eq.mp h]
  · cases h
theorem tab_ops : (List.range 48).all (fun p => isInt (Spec.lookup (.str (S (opWords.getD p []))) tabD) (7 + (p : Int))) = true := by decide +kernel
theorem tab_none : [[], [34], [92], [32, 97, 34, 44, 32, 98, 92, 61]].all (fun l => (Spec.lookup (.str (S l)) tabD).isNone) = true := by decide +kernel
theorem tab_ok : TabOk tabD opWords where
  len := by decide +kernel
  op := fun p w hw => by
    have hl : opWords.length = 48 := by decide +kernel
    have hp : p < 48 := hl ▸ (List.getElem?_eq_some_iff.mp hw).1
    have h := List.all_eq_true.mp tab_ops p (List.mem_range.mpr hp)
    have e : opWords.getD p [] = w := by simp [List.getD, hw]
    rw [e] at h
    rw [isInt_eq h]; rfl
  asc := by decide +kernel
  txt := fun p n => by
    have hm : leafTxt p ∈ [[], [34], [92], [32, 97, 34, 44, 32, 98, 92, 61]] := by unfold leafTxt; (repeat' split) <;> simp
    have h := List.all_eq_true.mp tab_none _ hm
    rw [Option.isNone_iff_eq_none.mp h]; rfl

section
variable {q : Program} {loose : List Str} {mean : ExcName → Option Value} {mg mb : Locs} {h : Heap} {K : Frag} {prog : Program} {w : World}
def InRecs (q : Program) (st : Stmt) : Prop := ∃ d ∈ recsOf q, d.name = fnName st ∧ d.params = fnArgs st ∧ d.body = fnBody st ∧ d.scope = fnScope st
theorem fn_of (T : Top q loose mean mg mb h) {st : Stmt} {x : Str} (hr : InRecs q st) (hx : fnName st = x) : ∃ a, mg x = some (.ref a) ∧ FnAt h a st := by
  obtain ⟨d, hd, e1, e2, e3, e4⟩ := hr
  obtain ⟨a, o, pm, cd, doc, h1, h2, h3, h4⟩ := T.fn d hd
  rw [e1] at h1 h3 h4
  rw [e2, e3, e4] at h3
  exact ⟨a, hx ▸ h1, o, pm, cd, doc, h2, h3, h4⟩

theorem wd_of (T : Top q loose mean mg mb h) (KX : K.In h)
    (r52 : InRecs q (stmtAt 52)) (r53 : InRecs q (stmtAt 53)) (r54 : InRecs q (stmtAt 54)) (r56 : InRecs q (stmtAt 56)) (r57 : InRecs q (stmtAt 57)) (r59 : InRecs q (stmtAt 59)) (r60 : InRecs q (stmtAt 60)) (r61 : InRecs q (stmtAt 61)) (r62 : InRecs q (stmtAt 62))
    (hnt : ∃ u, nsIn K mainGlobals (Str.ofString "NT_OFFSET") = some (some (.int 256 u))) (hem : ∃ u, nsIn K mainGlobals (Str.ofString "ENDMARKER") = some (some (.int 0 u)))
    (hD : nsIn K mainGlobals (Str.ofString "EXACT_TOKEN_TYPES") = some (some (.ref 15)))
    (n1 : nsIn K mainGlobals (Str.ofString "str") = some none) (n2 : nsIn K mainGlobals (Str.ofString "len") = some none) (n3 : nsIn K mainGlobals (Str.ofString "list") = some none) (n4 : nsIn K mainGlobals (Str.ofString "int") = some none)
    (ht : KTD.tabLook KTD.flatLooks (fun b => K.lookup b) 15 tabD0 = true) (hq : KTD.hashesOf (fun b => K.lookup b) 15 = tabD0.map fun p => (PySem.strKind prog w).hash p.1) :
    ∃ fs, Wd prog w mg mb tabD fs h := by
  obtain ⟨a52, g52, f52⟩ := fn_of T (x := Str.ofString "ISTERMINAL") r52 (by decide +kernel)
  obtain ⟨a53, g53, f53⟩ := fn_of T (x := Str.ofString "ISNONTERMINAL") r53 (by decide +kernel)
  obtain ⟨a54, g54, f54⟩ := fn_of T (x := Str.ofString "ISEOF") r54 (by decide +kernel)
  obtain ⟨a56, g56, f56⟩ := fn_of T (x := Str.ofString "parse_keqv_list") r56 (by decide +kernel)
  obtain ⟨a57, g57, f57⟩ := fn_of T (x := Str.ofString "parse_http_list") r57 (by decide +kernel)
  obtain ⟨a59, g59, f59⟩ := fn_of T (x := Str.ofString "_law_tree") r59 (by decide +kernel)
  obtain ⟨a60, g60, f60⟩ := fn_of T (x := Str.ofString "_law_written") r60 (by decide +kernel)
  obtain ⟨a61, g61, f61⟩ := fn_of T (x := Str.ofString "_law_read") r61 (by decide +kernel)
  obtain ⟨a62, g62, f62⟩ := fn_of T (x := Str.ofString "_law_until_end") r62 (by decide +kernel)
  refine ⟨⟨a52, a53, a54, a56, a57, a59, a60, a61, a62, 15⟩, ?_⟩
  exact
    { gl := ⟨T.g, T.b, T.nolimit, T.nodigits⟩
      fT := f52, fN := f53, fE := f54, fK := f56, fH := f57, fB := f59, fW := f60, fR := f61, fU := f62
      tab := kt_tab_in prog w KX ht (by decide +kernel) hq
      gT := g52, gN := g53, gE := g54, gK := g56, gH := g57, gB := g59, gW := g60, gR := g61, gU := g62
      gD := mg_of KX T.g hD
      nt := let ⟨u, e⟩ := hnt; ⟨u, mg_of KX T.g e⟩
      em := let ⟨u, e⟩ := hem; ⟨u, mg_of KX T.g e⟩
      nStr := mg_none_of KX T.g n1
      nLen := mg_none_of KX T.g n2
      nLst := mg_none_of KX T.g n3
      nInt := mg_none_of KX T.g n4
      bStr := (T.builtins _ (by decide)).trans (by boot_by_name)
      bLen := (T.builtins _ (by decide)).trans (by boot_by_name)
      bLst := (T.builtins _ (by decide)).trans (by boot_by_name)
      bInt := (T.builtins _ (by decide)).trans (by boot_by_name) }
end

end Mj

set_option maxHeartbeats 8000000 in
theorem PySem.Challenge.cw_mj0166_01_holds : PySem.Challenge.rw_mj0166_01.Holds := by
  open_k0
  rename World => wd
  rename Top _ _ _ _ _ _ => T
  rename Frag.In _ _ => KX
  rename Fr _ _ _ _ => F
  rename News _ _ _ _ => N
  rename IntsAre _ _ => hI
  rename Heap.IsList _ _ _ => hL
  rename ¬ _ => hlen
  rename _ = #[] => hgens
  obtain ⟨fs, Wd₀⟩ := Mj.wd_of (prog := PySem.Challenge.rw_mj0166_01.row.prog) (w := wd) T KX ⟨_, List.mem_of_getElem? (i := 0) rfl, rfl, rfl, rfl, rfl⟩ ⟨_, List.mem_of_getElem? (i := 1) rfl, rfl, rfl, rfl, rfl⟩ ⟨_, List.mem_of_getElem? (i := 2) rfl, rfl, rfl, rfl, rfl⟩
    ⟨_, List.mem_of_getElem? (i := 3) rfl, rfl, rfl, rfl, rfl⟩ ⟨_, List.mem_of_getElem? (i := 4) rfl, rfl, rfl, rfl, rfl⟩ ⟨_, List.mem_of_getElem? (i := 5) rfl, rfl, rfl, rfl, rfl⟩ ⟨_, List.mem_of_getElem? (i := 6) rfl, rfl, rfl, rfl, rfl⟩ ⟨_, List.mem_of_getElem? (i := 7) rfl, rfl, rfl, rfl, rfl⟩ ⟨_, List.mem_of_getElem? (i := 8) rfl, rfl, rfl, rfl, rfl⟩
    ⟨287, by kernel_rfl⟩ ⟨189, by kernel_rfl⟩ (by kernel_rfl) (by kernel_rfl) (by kernel_rfl) (by kernel_rfl) (by kernel_rfl) (by kernel_rfl) (by kernel_rfl)
  refine Mj.law_body (D := Mj.tabD) (fs := fs) ⟨F, N, List.nodup_nil⟩ rfl Wd₀ hL hI (by omega) Mj.tab_ok rfl (show 1 + claimMargin + 1 < 800 by decide) (show 4 + 3 < 1000 by decide) fun h' tk' m' F' => ?_
  exact goodW_bool F' hgens (raisesW_false (by wrow_none_raised)) (by wrow_post)
