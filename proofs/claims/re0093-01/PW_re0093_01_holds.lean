import PyProof.Rows.All
import Wide.All
import OpenK.AllK
import Wide.FinOn
import PySem.Challenge.RW_re0093_01
set_option Elab.async false

section -- Core1
open PySem PySem.W PyProof.Rows
namespace Mine

theorem no_some {α : Type} {p : α} {P : Prop} (h : (none : Option α) = some p) : P := nomatch h

inductive AV where
  | none
  | bool (b : Bool)
  | int (i : Int)
  | str (x : Str)
  | bytes (b : Array UInt8)
deriving DecidableEq

noncomputable def AIs (v : Value) : AV → Prop
  | .none => v = .none
  | .bool b => v = .bool b
  | .int i => ∃ t, v = .int i t
  | .str x => ∃ t, v = .str x t
  | .bytes b => ∃ t, v = .bytes b t

inductive PV where
  | atom (a : AV)
  | tup (l : List AV)
  | list (l : List AV)
  | tups (l : List (List AV))
  | range (n : Nat)
  | fn (v : Value)
deriving DecidableEq

noncomputable def TIs (h : Heap) (v : Value) (l : List AV) : Prop := ∃ T vs, v = .ref T ∧ h.IsTuple T (List.toArray vs) ∧ Paired AIs vs l

noncomputable def Is (h : Heap) (v : Value) : PV → Prop
  | .atom a => AIs v a
  | .tup l => TIs h v l
  | .list l => ∃ T vs, v = .ref T ∧ h.IsList T (List.toArray vs) ∧ Paired AIs vs l
  | .tups l => ∃ T vs, v = .ref T ∧ h.IsList T (List.toArray vs) ∧ Paired (TIs h) vs l
  | .range n => ∃ T t u r, v = .ref T ∧ IsRange h T 0 n 1 t u r
  | .fn u => v = u

noncomputable def Ext (h h' : Heap) : Prop := ∀ b o, h.get? b = some o → h'.get? b = some o
theorem Ext.refl (h : Heap) : Ext h h := fun _ _ e => e
theorem Ext.trans {a b c : Heap} (x : Ext a b) (y : Ext b c) : Ext a c := fun b o e => y b o (x b o e)

/-- what a store into a frame or a cell keeps: the sequences -/
noncomputable def ExtS (h h' : Heap) : Prop := ∀ b o xs n, h.get? b = some o → o.data = .seq xs n → h'.get? b = some o
theorem Ext.s {h h' : Heap} (x : Ext h h') : ExtS h h' := fun b o _ _ e _ => x b o e
theorem ExtS.trans {a b c : Heap} (x : ExtS a b) (y : ExtS b c) : ExtS a c := fun d o xs n e hd => y d o xs n (x d o xs n e hd) hd

theorem TIs.keepS {h h' : Heap} {v l} (x : TIs h v l) (k : ExtS h h') : TIs h' v l := by
  obtain ⟨T, vs, rfl, ⟨o, ho, hc, n, hd⟩, p⟩ := x
  exact ⟨T, vs, rfl, ⟨o, k _ _ _ _ ho hd, hc, n, hd⟩, p⟩

noncomputable def PV.stor : PV → Bool
  | .range _ => false
  | _ => true

theorem Is.keepS {h h' : Heap} {v : Value} {p : PV} (x : Is h v p) (k : ExtS h h') (hp : p.stor = true) : Is h' v p := by
  cases p with
  | atom a => exact x
  | tup l => exact TIs.keepS x k
  | list l =>
    obtain ⟨T, vs, rfl, ⟨o, ho, hc, n, hd⟩, p⟩ := x
    exact ⟨T, vs, rfl, ⟨o, k _ _ _ _ ho hd, hc, n, hd⟩, p⟩
  | tups l =>
    obtain ⟨T, vs, rfl, ⟨o, ho, hc, n, hd⟩, p⟩ := x
    exact ⟨T, vs, rfl, ⟨o, k _ _ _ _ ho hd, hc, n, hd⟩, p.mono fun _ _ q => TIs.keepS q k⟩
  | range n => first | exact no_some hp | cases hp
  | fn u => exact x

theorem Is.keep {h h' : Heap} {v : Value} {p : PV} (x : Is h v p) (k : Ext h h') : Is h' v p := by
  cases p with
  | range n =>
    obtain ⟨T, t, u, r, rfl, hr⟩ := x
    exact ⟨T, t, u, r, rfl, k _ _ hr⟩
  | _ => exact Is.keepS x k.s rfl

theorem keeps_refl (s : Shared) : Keeps s s := ⟨s.heap, s.toks, rfl, fun _ _ e => e⟩
theorem keeps_trans {a b c : Shared} (x : Keeps a b) (y : Keeps b c) : Keeps a c := by
  obtain ⟨h, t, rfl, k⟩ := x
  obtain ⟨h', t', rfl, k'⟩ := y
  exact ⟨h', t', rfl, fun b o e => k' b o (k b o e)⟩
theorem keeps_ext {a b : Shared} (x : Keeps a b) : Ext a.heap b.heap := by
  obtain ⟨h, t, rfl, k⟩ := x
  exact k

section
variable {prog : Program} {w : World} {A : Around}

noncomputable def Gives (prog : Program) (w : World) (A : Around) (t : Sem Value) (p : PV) (s : Shared) : Prop :=
  ∀ (Q : Value → Shared → Prop) (E : Value → Shared → Prop), (∀ v s', Is s'.heap v p → Keeps s s' → Q v s') → wpAny (model prog w) A t Q E s

/-- the element of a comprehension: an atom, or a tuple made behind the block's own dict -/
noncomputable def ElAt (C : Addr) (h : Heap) (y : Value) : PV → Prop
  | .atom a => AIs y a
  | .tup l => ∃ T vs, y = .ref T ∧ C < T ∧ h.IsTuple T (List.toArray vs) ∧ Paired AIs vs l
  | _ => False

theorem ElAt.keep {C : Addr} {h h' : Heap} {y : Value} {q : PV} (x : ElAt C h y q) (k : ∀ b o, C < b → h.get? b = some o → h'.get? b = some o) : ElAt C h' y q := by
  cases q with
  | atom a => exact x
  | tup l =>
    obtain ⟨T, vs, rfl, hC, ⟨o, ho, r⟩, p⟩ := x
    exact ⟨T, vs, rfl, hC, ⟨o, k T o hC ho, r⟩, p⟩
  | _ => exact x.elim

noncomputable def outOf (tst : Nat → Bool) (f : Nat → PV) (n : Nat) : List PV := ((List.range n).filter tst).map f
theorem outOf_succ (tst : Nat → Bool) (f : Nat → PV) (n : Nat) : outOf tst f (n + 1) = outOf tst f n ++ (if tst n then [f n] else []) := by
  unfold outOf
  rw [List.range_succ, List.filter_append, List.map_append]
  congr 1
  cases h : tst n <;> simp [h]

theorem loop_tests {R : Result → Shared → Prop} {s : Shared} {elt target iter : Expr} {ifs : List Expr} {scope : Scope} {pos : Pos} {it acc : Value} {env : Env} (I : Nat → Shared → Prop)
    (turn : ∀ n s, I n s → wpAny (model prog w) A (pyNext it) (fun r s₁ => match r with
      | none => R (.ok .next) s₁
      | some v => wpAny (model prog w) A (letOwnedTupleGo target it v >>= fun _ => assign target env v) (fun _ s₂ =>
          wpAny (model prog w) A (forIn ifs true fun c r => if r = true then do let ok ← isTrue c env (eval c env); pure (ForInStep.yield ok) else pure (ForInStep.yield r)) (fun ok s₃ =>
            if ok = true then wpAny (model prog w) A (eval elt env) (fun x s₄ =>
              wpAny (model prog w) A (call (.builtin "list.append") [acc, x]) (fun _ s₅ => ∃ m, m < n ∧ I m s₅) (fun _ _ => False) s₄) (fun _ _ => False) s₃
            else ∃ m, m < n ∧ I m s₃) (fun _ _ => False) s₂) (fun _ _ => False) s₁) (fun _ _ => False) s)
    (n : Nat) (h : I n s) :
    codeAny (model prog w) A (.compLoop (.ListComp elt [⟨target, iter, ifs, 0⟩] scope pos) 0 it acc env) R s := by
  refine codeAny_loop rfl I (fun n s hI => ?_) n h
  show wpAny _ A ((compTurn (.ListComp elt [⟨target, iter, ifs, 0⟩] scope pos) 0 it acc env).onRaise (fun x => do noteFrame x env; theTreesLotGoes x)) _ _ s
  refine wpAny_noted ?_
  rw [compTurn_list]
  refine wpAny_bind (wpAny_standAt (wpAny_bind (wpAny_mono (turn n s hI) (fun r s₁ h₁ => ?_) fun _ _ h' => h'.elim)))
  cases r with
  | none => exact wpAny_pure h₁
  | some v =>
    show wpAny _ A (letOwnedTupleGo target it v >>= fun _ => assign target env v >>= _) _ _ s₁
    rw [← bind_assoc]
    refine wpAny_bind (wpAny_mono h₁ (fun _ s₂ h₂ => wpAny_bind (wpAny_mono h₂ (fun ok s₃ h₃ => ?_) fun _ _ h' => h'.elim)) fun _ _ h' => h'.elim)
    cases ok with
    | false => exact wpAny_pure ⟨rfl, h₃⟩
    | true =>
      exact wpAny_bind (wpAny_bind (wpAny_mono h₃ (fun x s₄ h₄ => wpAny_bind (wpAny_mono h₄ (fun _ s₅ h₅ => wpAny_pure (wpAny_pure ⟨rfl, h₅⟩)) fun _ _ h' => h'.elim)) fun _ _ h' => h'.elim))
end
end Mine

end

section -- Core2
open PySem PySem.W PyProof.Rows
namespace Mine
section
variable {prog : Program} {w : World} {A : Around}

theorem comp_loop {R : Result → Shared → Prop} {s : Shared} {elt target iter : Expr} {ifs : List Expr} {scope : Scope} {pos : Pos} {I D : Addr} {fp wr : List Addr} {n : Nat} {P : Nat → Value → Prop} {St : Nat → Heap → Prop}
    {cenv : Env} {m : Str → Option Value} (W : Walks prog w A I fp wr n P St) (Bnd : Nat → Heap → (Str → Option Value) → Prop) (tst : Nat → Bool) (f : Nat → PV)
    (hD : D < cenv.locals) (hfp : ∀ b ∈ fp, b < D)
    (hst : St 0 s.heap) (hacc : s.heap.PlainList D #[]) (hn : s.heap.Ns cenv.locals m)
    (hassign : ∀ i v (s₂ : Shared) m₂ (Q : Unit → Shared → Prop) (E : Value → Shared → Prop), i < n → P i v → St (i + 1) s₂.heap → s₂.heap.Ns cenv.locals m₂ → (∀ b o, b ≠ cenv.locals → b ∉ wr → b ≠ D → s.heap.get? b = some o → s₂.heap.get? b = some o) →
      (∀ h' tk m', h'.Ns cenv.locals m' → Bnd i h' m' → (∀ b o, b ≠ cenv.locals → s₂.heap.get? b = some o → h'.get? b = some o) → Q () { s₂ with heap := h', toks := tk }) →
      wpAny (model prog w) A (letOwnedTupleGo target (.ref I) v >>= fun _ => assign target cenv v) Q E s₂)
    (htests : ∀ i (s₂ : Shared) m₂ (E : Value → Shared → Prop), i < n → s₂.heap.Ns cenv.locals m₂ → Bnd i s₂.heap m₂ → (∀ b o, b ≠ cenv.locals → b ∉ wr → b ≠ D → s.heap.get? b = some o → s₂.heap.get? b = some o) →
      wpAny (model prog w) A (forIn ifs true fun c r => if r = true then do let ok ← isTrue c cenv (eval c cenv); pure (ForInStep.yield ok) else pure (ForInStep.yield r))
        (fun ok s₃ => ok = tst i ∧ Keeps s₂ s₃) E s₂)
    (hbk : ∀ i h h' m', Bnd i h m' → Ext h h' → Bnd i h' m')
    (helt : ∀ i (s₂ : Shared) m₂ (E : Value → Shared → Prop), i < n → tst i = true → s₂.heap.Ns cenv.locals m₂ → Bnd i s₂.heap m₂ → (∀ b o, b ≠ cenv.locals → b ∉ wr → b ≠ D → s.heap.get? b = some o → s₂.heap.get? b = some o) →
      wpAny (model prog w) A (eval elt cenv) (fun y s₃ => ElAt cenv.locals s₃.heap y (f i) ∧ Keeps s₂ s₃) E s₂)
    (hR : ∀ h' tk m' ys, h'.Ns cenv.locals m' → h'.PlainList D (List.toArray ys) → Paired (ElAt cenv.locals h') ys (outOf tst f n) →
      (∀ b o, b ≠ cenv.locals → b ∉ wr → b ≠ D → s.heap.get? b = some o → h'.get? b = some o) → R (.ok .next) { s with heap := h', toks := tk })
    (hsz : n ≤ sizeLine) :
    codeAny (model prog w) A (.compLoop (.ListComp elt [⟨target, iter, ifs, 0⟩] scope pos) 0 (.ref I) (.ref D) cenv) R s := by
  have hDC : D ≠ cenv.locals := Nat.ne_of_lt hD
  have hDf : D ∉ fp := fun h => Nat.lt_irrefl _ (hfp _ h)
  have hCf : cenv.locals ∉ fp := fun h => Nat.lt_irrefl _ (Nat.lt_trans (hfp _ h) hD)
  have hCw : cenv.locals ∉ wr := fun h => hCf (W.sub _ h)
  have hDw : D ∉ wr := fun h => hDf (W.sub _ h)
  have hbig : ∀ b, cenv.locals < b → b ≠ cenv.locals ∧ b ∉ wr ∧ b ≠ D := fun b hb => ⟨Nat.ne_of_gt hb, fun h => Nat.lt_irrefl _ (Nat.lt_trans hb (Nat.lt_trans (hfp _ (W.sub _ h)) hD)), Nat.ne_of_gt (Nat.lt_trans hD hb)⟩
  refine loop_tests
    (fun k s' => ∃ h' tk m' ys i, s' = { s with heap := h', toks := tk } ∧ St i h' ∧ h'.PlainList D (List.toArray ys) ∧ h'.Ns cenv.locals m' ∧
      Paired (ElAt cenv.locals h') ys (outOf tst f i) ∧ i ≤ n ∧ k = n + 1 - i ∧
      (∀ b o, b ≠ cenv.locals → b ∉ wr → b ≠ D → s.heap.get? b = some o → h'.get? b = some o)) ?_ (n + 1)
    ⟨s.heap, s.toks, m, [], 0, rfl, hst, hacc, hn, Paired.nil, Nat.zero_le _, rfl, fun _ _ _ _ _ e => e⟩
  rintro k s' ⟨H, tk, m', ys, i, rfl, hst', hacc', hn', hF, hi, rfl, hk⟩
  by_cases hlt : i < n
  · refine W.item i _ _ _ hlt hst' fun v h₁ tk₁ hPv hst₁ hk₁ => ?_
    refine hassign i v _ _ _ _ hlt hPv hst₁ (hn'.at' fun o e => hk₁ _ o hCw e) (fun b o hbC hbf hbD e => hk₁ b o hbf (hk b o hbC hbf hbD e)) fun h₂ tk₂ m₂ hn₂ hB₂ hs₂ => ?_
    have up₂ : ∀ b o, b ≠ cenv.locals → b ∉ wr → H.get? b = some o → h₂.get? b = some o := fun b o hbC hbf e => hs₂ b o hbC (hk₁ b o hbf e)
    have hst₂ : St (i + 1) h₂ := W.frame _ _ _ hst₁ fun b hb o e => hs₂ b o (fun h => hCf (h ▸ hb)) e
    refine wpAny_mono (htests i _ m₂ _ hlt hn₂ hB₂ (fun b o hbC hbf hbD e => up₂ b o hbC hbf (hk b o hbC hbf hbD e))) (fun ok s₃ h₃ => ?_) fun _ _ e => e
    obtain ⟨rfl, h₃, tk₃, rfl, hk₃⟩ := h₃
    have hst₃ : St (i + 1) h₃ := W.frame _ _ _ hst₂ fun b _ o e => hk₃ b o e
    have hacc₃ : h₃.PlainList D (List.toArray ys) := hacc'.at fun o e => hk₃ _ o (up₂ D o hDC hDw e)
    have hn₃ := hn₂.keeps hk₃
    have hF₃ : Paired (ElAt cenv.locals h₃) ys (outOf tst f i) := hF.mono fun _ _ hy => hy.keep fun b o hb e => hk₃ b o (up₂ b o (hbig b hb).1 (hbig b hb).2.1 e)
    cases hpv : tst i with
    | false =>
      simp only [Bool.false_eq_true, if_false]
      refine ⟨n + 1 - (i + 1), by omega, h₃, tk₃, _, ys, i + 1, rfl, hst₃, hacc₃, hn₃, ?_, hlt, rfl, fun b o hbC hbf hbD e => hk₃ b o (up₂ b o hbC hbf (hk b o hbC hbf hbD e))⟩
      rw [outOf_succ, hpv]; simpa using hF₃
    | true =>
      simp only [if_true]
      refine wpAny_mono (helt i _ m₂ _ hlt hpv hn₃ (hbk i h₂ h₃ m₂ hB₂ hk₃) (fun b o hbC hbf hbD e => hk₃ b o (up₂ b o hbC hbf (hk b o hbC hbf hbD e)))) (fun y s₄ h₄ => ?_) fun _ _ e => e
      obtain ⟨hFy, h₄, tk₄, rfl, hk₄⟩ := h₄
      have hys : (List.toArray ys).size ≤ sizeLine := by
        have e1 := hF.length
        have e2 : (outOf tst f i).length ≤ i := by
          unfold outOf
          rw [List.length_map]
          exact Nat.le_trans (List.length_filter_le _ _) (by simp)
        simp only [List.size_toArray]
        omega
      refine wpAny_list_append_plain (hsz := hys) (hacc₃.at fun o e => hk₄ _ o e) fun h₅ hl₅ hs₅ => ?_
      refine ⟨n + 1 - (i + 1), by omega, h₅, tk₄, _, ys ++ [y], i + 1, rfl, ?_, (by simpa using hl₅), (hn₃.keeps hk₄).sameBut hs₅ (Ne.symm hDC), ?_, hlt, rfl,
        fun b o hbC hbf hbD e => hs₅.extBut b o hbD (hk₄ b o (hk₃ b o (up₂ b o hbC hbf (hk b o hbC hbf hbD e))))⟩
      · exact W.frame _ _ h₅ hst₃ fun b hb o e => hs₅.extBut b o (fun h => hDf (h ▸ hb)) (hk₄ b o e)
      · rw [outOf_succ, hpv]
        simp only [if_true]
        exact Paired.snoc (hF₃.mono fun _ _ hy => hy.keep fun b o hb e => hs₅.extBut b o (hbig b hb).2.2 (hk₄ b o e)) (hFy.keep fun b o hb e => hs₅.extBut b o (hbig b hb).2.2 e)
  · have hin : i = n := by omega
    subst hin
    refine W.done _ _ _ hst' fun h₁ tk₁ hk₁ => ?_
    exact hR h₁ tk₁ m' ys (hn'.at' fun o e => hk₁ _ o hCw e) (hacc'.at fun o e => hk₁ _ o hDw e) (hF.mono fun _ _ hy => hy.keep fun b o hb e => hk₁ b o (hbig b hb).2.1 e) fun b o hbC hbf hbD e => hk₁ b o hbf (hk b o hbC hbf hbD e)

end
end Mine

end

section -- Core3
open PySem PySem.W PyProof.Rows
namespace Mine
section
variable {prog : Program} {w : World} {A : Around} {E : Value → Shared → Prop} {env : Env}

theorem paired_map {α β γ : Type} {F : α → β → Prop} (g : γ → β) : ∀ {ys : List α} {l : List γ}, Paired F ys (l.map g) → Paired (fun y c => F y (g c)) ys l
  | _, [], .nil => .nil
  | _, _ :: _, .cons h t => .cons h (paired_map g t)
theorem paired_map' {α β γ : Type} {F : α → β → Prop} (g : γ → β) : ∀ {ys : List α} {l : List γ}, Paired (fun y c => F y (g c)) ys l → Paired F ys (l.map g)
  | _, _, .nil => .nil
  | _, _, .cons h t => .cons h (paired_map' g t)

noncomputable def Packs (out : List PV) : PV → Prop
  | .list l => out = l.map PV.atom
  | .tups l => out = l.map PV.tup
  | _ => False

theorem is_of_packs {C : Addr} {h : Heap} {D : Addr} {ys : List Value} {out : List PV} {p : PV} (hl : h.IsList D (List.toArray ys)) (hF : Paired (ElAt C h) ys out) (hp : Packs out p) : Is h (.ref D) p := by
  cases p with
  | list l =>
    have hp : out = l.map PV.atom := hp
    subst hp
    exact ⟨D, ys, rfl, hl, (paired_map _ hF).mono fun _ _ q => q⟩
  | tups l =>
    have hp : out = l.map PV.tup := hp
    subst hp
    refine ⟨D, ys, rfl, hl, (paired_map _ hF).mono fun _ _ q => ?_⟩
    obtain ⟨T, vs, rfl, _, ht, hv⟩ := q
    exact ⟨T, vs, rfl, ht, hv⟩
  | _ => exact hp.elim

theorem comp_block {s₂ : Shared} {elt target iter : Expr} {ifs : List Expr} {scope : Scope} {cl : List (Str × Addr)} {pos : Pos} {I : Addr} {fp wr : List Addr} {n : Nat} {P : Nat → Value → Prop} {St : Nat → Heap → Prop}
    (W : Walks prog w A I fp wr n P St) (Bnd : Nat → Heap → (Str → Option Value) → Prop) (tst : Nat → Bool) (f : Nat → PV) {RR : Value → Addr → Result → Shared → Prop}
    (hcell : ∀ y ∈ scope.names, y.2 ≠ .cell) (hkind : scope.kind = .function) (hst : St 0 s₂.heap) (hfp : ∀ b ∈ fp, b < s₂.heap.objs.size)
    (hassign : ∀ C i v (s₃ : Shared) m₃ (Q : Unit → Shared → Prop) (E : Value → Shared → Prop), s₂.heap.objs.size ≤ C → i < n → P i v → St (i + 1) s₃.heap → s₃.heap.Ns C m₃ → (∀ b o, b ∉ wr → s₂.heap.get? b = some o → s₃.heap.get? b = some o) →
      (∀ h' tk m', h'.Ns C m' → Bnd i h' m' → (∀ b o, b ≠ C → s₃.heap.get? b = some o → h'.get? b = some o) → Q () { s₃ with heap := h', toks := tk }) →
      wpAny (model prog w) A (letOwnedTupleGo target (.ref I) v >>= fun _ => assign target (compEnvC scope cl C env) v) Q E s₃)
    (htests : ∀ C i (s₃ : Shared) m₃ (E : Value → Shared → Prop), s₂.heap.objs.size ≤ C → i < n → s₃.heap.Ns C m₃ → Bnd i s₃.heap m₃ → (∀ b o, b ∉ wr → s₂.heap.get? b = some o → s₃.heap.get? b = some o) →
      wpAny (model prog w) A (forIn ifs true fun c r => if r = true then do let ok ← isTrue c (compEnvC scope cl C env) (eval c (compEnvC scope cl C env)); pure (ForInStep.yield ok) else pure (ForInStep.yield r))
        (fun ok s₄ => ok = tst i ∧ Keeps s₃ s₄) E s₃)
    (hbk : ∀ i h h' m', Bnd i h m' → Ext h h' → Bnd i h' m')
    (helt : ∀ C i (s₃ : Shared) m₃ (E : Value → Shared → Prop), s₂.heap.objs.size ≤ C → i < n → tst i = true → s₃.heap.Ns C m₃ → Bnd i s₃.heap m₃ → (∀ b o, b ∉ wr → s₂.heap.get? b = some o → s₃.heap.get? b = some o) →
      wpAny (model prog w) A (eval elt (compEnvC scope cl C env)) (fun y s₄ => ElAt C s₄.heap y (f i) ∧ Keeps s₃ s₄) E s₃)
    (hRR : ∀ D C h' tk m' ys, s₂.heap.objs.size ≤ D → D < C → h'.Ns C m' → h'.PlainList D (List.toArray ys) → Paired (ElAt C h') ys (outOf tst f n) →
      (∀ b o, b ∉ wr → s₂.heap.get? b = some o → h'.get? b = some o) → RR (.ref D) C (.ok .next) { s₂ with heap := h', toks := tk })
    (hsz : n ≤ sizeLine) :
    wpAny (model prog w) A (newList []) (fun acc s₃ => wpAny (model prog w) A (newFunctionEnv scope env.globals cl [] env.qual none .none (some env)) (fun cenv s₄ =>
      codeAny (model prog w) A (.compStart (.ListComp elt [⟨target, iter, ifs, 0⟩] scope pos) 0 (.ref I) acc { cenv with scope := relabel scope env }) (RR acc cenv.locals) s₄) E s₃) E s₂ := by
  refine wpAny_newObj_type (wpAny_newFunctionEnv hcell (by intro y hy; simp at hy) (fun h₁ hns₁ hsb₁ => ?_) hkind)
  dsimp only at hns₁ hsb₁ ⊢
  generalize hH2 : s₂.heap.push { cls := .type "list", dict := none, data := .seq ([] : List Value).toArray } = H2 at hns₁ hsb₁ ⊢
  have hC : H2.objs.size = s₂.heap.objs.size + 1 := by rw [← hH2, Heap.size_push]
  have hDC : s₂.heap.objs.size ≠ H2.objs.size := by rw [hC]; exact Nat.ne_of_lt (Nat.lt_succ_self _)
  have hCle : s₂.heap.objs.size ≤ H2.objs.size := by rw [hC]; exact Nat.le_succ _
  have below : ∀ b, b < s₂.heap.objs.size → b ≠ H2.objs.size ∧ b ≠ s₂.heap.objs.size := fun b hb => ⟨by rw [hC]; exact Nat.ne_of_lt (Nat.lt_succ_of_lt hb), Nat.ne_of_lt hb⟩
  have old : ∀ b o, s₂.heap.get? b = some o → h₁.get? b = some o := fun b o e => hsb₁.extBut b o (below b (Heap.lt_size e)).1 (Heap.get?_push_of_some _ (hH2 ▸ Heap.get?_push_of_some _ e))
  have hacc : h₁.PlainList s₂.heap.objs.size #[] := ⟨_, hsb₁.extBut _ _ hDC (Heap.get?_push_of_some _ (hH2 ▸ Heap.get?_push_size _ rfl))⟩
  have hst₁ : St 0 h₁ := W.frame _ _ _ hst fun b _ o e => old b o e
  have loop : ∀ s₃ : Shared, s₃ = { s₂ with heap := h₁, toks := s₂.toks + ([] : List (Str × Value)).length } →
      codeAny (model prog w) A (.compLoop (.ListComp elt [⟨target, iter, ifs, 0⟩] scope pos) 0 (.ref I) (.ref s₂.heap.objs.size) (compEnvC scope cl H2.objs.size env))
        (RR (.ref s₂.heap.objs.size) H2.objs.size) s₃ := by
    rintro s₃ rfl
    refine comp_loop (cenv := compEnvC scope cl H2.objs.size env) W Bnd tst f (by show _ < H2.objs.size; rw [hC]; exact Nat.lt_succ_self _) hfp hst₁ hacc hns₁
      (fun i v s₃ m₃ Q E hi hv hs hn hk hQ => hassign _ i v s₃ m₃ Q E hCle hi hv hs hn (fun b o hbf e => hk b o (below b (Heap.lt_size e)).1 hbf (below b (Heap.lt_size e)).2 (old b o e)) hQ)
      (fun i s₃ m₃ E hi hn hm hk => htests _ i s₃ m₃ E hCle hi hn hm (fun b o hbf e => hk b o (below b (Heap.lt_size e)).1 hbf (below b (Heap.lt_size e)).2 (old b o e)))
      hbk
      (fun i s₃ m₃ E hi ht hn hm hk => helt _ i s₃ m₃ E hCle hi ht hn hm (fun b o hbf e => hk b o (below b (Heap.lt_size e)).1 hbf (below b (Heap.lt_size e)).2 (old b o e)))
      (fun h' tk m' ys hn hl hF hk => ?_) hsz
    exact hRR _ _ h' tk m' ys (Nat.le_refl _) (by rw [hC]; exact Nat.lt_succ_self _) hn hl hF fun b o hbf e => hk b o (below b (Heap.lt_size e)).1 hbf (below b (Heap.lt_size e)).2 (old b o e)
  exact codeAny_compStart_list (loop _ rfl) (W.self 0 _ _ _ hst₁ (loop _ rfl))

/-- what a loop may know of the thing it goes through -/
structure Src (prog : Program) (w : World) (A : Around) (s₁ s₂ : Shared) (I : Addr) (fp wr : List Addr) (n : Nat) (P : Nat → Value → Prop) (St : Nat → Heap → Prop) (its : Nat → PV) : Prop where
  walks : Walks prog w A I fp wr n P St
  st : St 0 s₂.heap
  fp : ∀ b ∈ fp, b < s₂.heap.objs.size
  old : ∀ b o, s₁.heap.get? b = some o → b ∉ wr ∧ s₂.heap.get? b = some o
  is : ∀ i v, i < n → P i v → Is s₁.heap v (its i)
  size : n ≤ sizeLine
  owned : ∀ i (s : Shared) target v (Q : Unit → Shared → Prop) (E : Value → Shared → Prop), P i v → St (i + 1) s.heap → Q () s → wpAny (model prog w) A (letOwnedTupleGo target (.ref I) v) Q E s
  same : ∃ h' tk, s₂ = { s₁ with heap := h', toks := tk }
  ge : s₁.heap.objs.size ≤ s₂.heap.objs.size

noncomputable def Iters (prog : Program) (w : World) (A : Around) (s₁ : Shared) (xv : Value) (n : Nat) (its : Nat → PV) : Prop :=
  ∀ (Q : Value → Shared → Prop) (E : Value → Shared → Prop), (∀ I fp wr P St s₂, Src prog w A s₁ s₂ I fp wr n P St its → Q (.ref I) s₂) → wpAny (model prog w) A (pyIter xv) Q E s₁

/-- one turn of a block, in the words of its frame -/
structure Turn (prog : Program) (w : World) (A : Around) (s₁ : Shared) (elt target : Expr) (ifs : List Expr) (scope : Scope) (cl : List (Str × Addr)) (env : Env) (n : Nat) (its : Nat → PV) (tst : Nat → Bool) (f : Nat → PV)
    (Bnd : Nat → Heap → (Str → Option Value) → Prop) : Prop where
  assign : ∀ C i v (s₃ : Shared) m₃ (Q : Unit → Shared → Prop) (E : Value → Shared → Prop), s₁.heap.objs.size ≤ C → i < n → Is s₃.heap v (its i) → s₃.heap.Ns C m₃ → Ext s₁.heap s₃.heap →
      (∀ h' tk m', h'.Ns C m' → Bnd i h' m' → (∀ b o, b ≠ C → s₃.heap.get? b = some o → h'.get? b = some o) → Q () { s₃ with heap := h', toks := tk }) →
      wpAny (model prog w) A (assign target (compEnvC scope cl C env) v) Q E s₃
  tests : ∀ C i (s₃ : Shared) m₃ (E : Value → Shared → Prop), s₁.heap.objs.size ≤ C → i < n → s₃.heap.Ns C m₃ → Bnd i s₃.heap m₃ → Ext s₁.heap s₃.heap →
      wpAny (model prog w) A (forIn ifs true fun c r => if r = true then do let ok ← isTrue c (compEnvC scope cl C env) (eval c (compEnvC scope cl C env)); pure (ForInStep.yield ok) else pure (ForInStep.yield r))
        (fun ok s₄ => ok = tst i ∧ Keeps s₃ s₄) E s₃
  keep : ∀ i h h' m', Bnd i h m' → Ext h h' → Bnd i h' m'
  elt : ∀ C i (s₃ : Shared) m₃ (E : Value → Shared → Prop), s₁.heap.objs.size ≤ C → i < n → tst i = true → s₃.heap.Ns C m₃ → Bnd i s₃.heap m₃ → Ext s₁.heap s₃.heap →
      wpAny (model prog w) A (eval elt (compEnvC scope cl C env)) (fun y s₄ => ElAt C s₄.heap y (f i) ∧ Keeps s₃ s₄) E s₃

theorem comp_turns {s₁ s₂ : Shared} {elt target iter : Expr} {ifs : List Expr} {scope : Scope} {cl : List (Str × Addr)} {pos : Pos} {I : Addr} {fp wr : List Addr} {n : Nat} {P : Nat → Value → Prop} {St : Nat → Heap → Prop} {its : Nat → PV}
    {tst : Nat → Bool} {f : Nat → PV} {Bnd : Nat → Heap → (Str → Option Value) → Prop} {RR : Value → Addr → Result → Shared → Prop}
    (S : Src prog w A s₁ s₂ I fp wr n P St its) (T : Turn prog w A s₁ elt target ifs scope cl env n its tst f Bnd)
    (hcell : ∀ y ∈ scope.names, y.2 ≠ .cell) (hkind : scope.kind = .function)
    (hRR : ∀ D C h' tk m' ys, s₂.heap.objs.size ≤ D → D < C → h'.Ns C m' → h'.PlainList D (List.toArray ys) → Paired (ElAt C h') ys (outOf tst f n) →
      Ext s₁.heap h' → RR (.ref D) C (.ok .next) { s₁ with heap := h', toks := tk }) :
    wpAny (model prog w) A (newList []) (fun acc s₃ => wpAny (model prog w) A (newFunctionEnv scope env.globals cl [] env.qual none .none (some env)) (fun cenv s₄ =>
      codeAny (model prog w) A (.compStart (.ListComp elt [⟨target, iter, ifs, 0⟩] scope pos) 0 (.ref I) acc { cenv with scope := relabel scope env }) (RR acc cenv.locals) s₄) E s₃) E s₂ := by
  have up : ∀ s₃ : Shared, (∀ b o, b ∉ wr → s₂.heap.get? b = some o → s₃.heap.get? b = some o) → Ext s₁.heap s₃.heap := fun s₃ hk b o e => hk b o (S.old b o e).1 (S.old b o e).2
  refine comp_block S.walks Bnd tst f hcell hkind S.st S.fp ?_ ?_ T.keep ?_ ?_ S.size
  · intro C i v s₃ m₃ Q E hC hi hP hst hn hk hQ
    exact wpAny_bind (S.owned i s₃ target v _ _ hP hst (T.assign C i v s₃ m₃ Q E (Nat.le_trans S.ge hC) hi ((S.is i v hi hP).keep (up s₃ hk)) hn (up s₃ hk) hQ))
  · intro C i s₃ m₃ E hC hi hn hB hk
    exact T.tests C i s₃ m₃ E (Nat.le_trans S.ge hC) hi hn hB (up s₃ hk)
  · intro C i s₃ m₃ E hC hi ht hn hB hk
    exact T.elt C i s₃ m₃ E (Nat.le_trans S.ge hC) hi ht hn hB (up s₃ hk)
  · intro D C h' tk m' ys hD hDC hn hl hF hk
    obtain ⟨h2, t2, e2⟩ := S.same
    have := hRR D C h' tk m' ys hD hDC hn hl hF (up { s₂ with heap := h' } hk)
    rw [e2]
    exact this

theorem comp_eval {s : Shared} {elt target iter : Expr} {ifs : List Expr} {scope : Scope} {cl : List (Str × Addr)} {pos : Pos} {Q : Value → Shared → Prop} {p : PV}
    (hclos : closureFor scope env = pure cl) (hcell : ∀ y ∈ scope.names, y.2 ≠ .cell) (hkind : scope.kind = .function)
    (hnames : ∀ y ∈ scope.names, y.2 = .local → scope.names.lookup y.1 = some .local) (hs : ∀ x, foldedSetIterable iter env x = pure x)
    (h : wpAny (model prog w) A (eval iter env) (fun xv s₁ => ∃ n its tst f Bnd, Iters prog w A s₁ xv n its ∧ Turn prog w A s₁ elt target ifs scope cl env n its tst f Bnd ∧ Packs (outOf tst f n) p ∧
      (∀ v s', Is s'.heap v p → Keeps s₁ s' → Q v s')) E s) :
    wpAny (model prog w) A (eval (.ListComp elt [⟨target, iter, ifs, 0⟩] scope pos) env) Q E s := by
  rw [eval_ListComp]
  refine wpAny_comprehension_free (use := none) rfl hs hclos hkind hnames (wpAny_mono h (fun xv s₁ h₁ => ?_) fun _ _ e => e)
  obtain ⟨n, its, tst, f, Bnd, hI, T, hp, hQ⟩ := h₁
  refine hI _ _ fun I fp wr P St s₂ S => ?_
  refine comp_turns (RR := fun acc C => compPost (model prog w) A E none Q acc C) S T hcell hkind ?_
  intro D C h' tk m' ys hD hDC hn hl hF hk
  refine ⟨m', hn, fun h'' hs'' => ?_⟩
  refine hQ _ _ (is_of_packs (C := C) ((hl.extBut hs''.extBut (Nat.ne_of_lt hDC)).isList) (hF.mono fun _ _ q => q.keep fun b o hb e => hs''.extBut b o (Nat.ne_of_gt hb) e) hp) ⟨h'', tk, rfl, fun b o e => hs''.extBut b o ?_ (hk b o e)⟩
  exact Nat.ne_of_lt (Nat.lt_trans (Nat.lt_of_lt_of_le (Heap.lt_size e) (Nat.le_trans S.ge hD)) hDC)

theorem comp_assign {s : Shared} {elt target iter : Expr} {ifs : List Expr} {scope : Scope} {cl : List (Str × Addr)} {pos spos py : Pos} {y : Str} {Q : Flow → Shared → Prop} {p : PV}
    (hsw : swapsWith (.ListComp elt [⟨target, iter, ifs, 0⟩] scope pos) (some (.Name y py)) spos.line env = pure true)
    (hclos : closureFor scope env = pure cl) (hcell : ∀ y ∈ scope.names, y.2 ≠ .cell) (hkind : scope.kind = .function)
    (hnames : ∀ y ∈ scope.names, y.2 = .local → scope.names.lookup y.1 = some .local) (hs : ∀ x, foldedSetIterable iter env x = pure x)
    (hy : env.kindOf y = some .local) (hp : (env.scope.kind == .class || (env.scope.kind == .module && env.locals != env.globals)) = false)
    (h : wpAny (model prog w) A (eval iter env) (fun xv s₁ => ∃ n its tst f Bnd m, Iters prog w A s₁ xv n its ∧ Turn prog w A s₁ elt target ifs scope cl env n its tst f Bnd ∧ Packs (outOf tst f n) p ∧ s₁.heap.Ns env.locals m ∧
      (∀ D h' tk, Is h' (.ref D) p → (∃ ys, h'.PlainList D ys) → s₁.heap.objs.size ≤ D → h'.Ns env.locals (fun z => if z = y then some (.ref D) else m z) → (∀ b o, b ≠ env.locals → s₁.heap.get? b = some o → h'.get? b = some o) →
        Q .next { s₁ with heap := h', toks := tk })) E s) :
    wpAny (model prog w) A (exec (.Assign [.Name y py] (.ListComp elt [⟨target, iter, ifs, 0⟩] scope pos) spos) env) Q E s := by
  rw [exec_Assign_Name_used _ _ _ _ hsw]
  refine wpAny_bind (wpAny_standAt (wpAny_bind ?_))
  show wpAny _ A (do let _ ← comprehension (.ListComp elt [⟨target, iter, ifs, 0⟩] scope pos) scope env _ (newList []) false (eval iter env) (some (PySem.assign (.Name y py) env))) _ _ s
  refine wpAny_bind (wpAny_mono (wpAny_comprehension_free (use := some (PySem.assign (.Name y py) env)) (Q := fun _ s' => Q .next s') rfl hs hclos hkind hnames
    (wpAny_mono h (fun xv s₁ h₁ => ?_) fun _ _ e => e)) (fun _ s' hq => wpAny_pure (wpAny_pure hq)) fun _ _ e => e)
  obtain ⟨n, its, tst, f, Bnd, m, hI, T, hpk, hn, hQ⟩ := h₁
  refine hI _ _ fun I fp wr P St s₂ S => ?_
  refine comp_turns (RR := fun acc C => compPost (model prog w) A E (some (PySem.assign (.Name y py) env)) (fun _ s' => Q .next s') acc C) S T hcell hkind ?_
  intro D C h' tk m' ys hD hDC hnC hl hF hk
  have hL1 : env.locals < s₁.heap.objs.size := hn.lt
  have hLD : env.locals < D := Nat.lt_of_lt_of_le hL1 (Nat.le_trans S.ge hD)
  have hLC : env.locals < C := Nat.lt_trans hLD hDC
  show wpAny _ A (PySem.assign (.Name y py) env (.ref D)) _ _ _
  refine wpAny_assign_Name (wpAny_storeName_local hy (hn.at' fun o e => hk _ o e) (fun h₂ hn₂ hs₂ => ?_) hp)
  refine ⟨m', hnC.sameBut hs₂ (Nat.ne_of_gt hLC), fun h₃ hs₃ => ?_⟩
  refine hQ D h₃ _ (is_of_packs (C := C) (((hl.extBut hs₂.extBut (Nat.ne_of_gt hLD)).extBut hs₃.extBut (Nat.ne_of_lt hDC)).isList) (hF.mono fun _ _ q => q.keep fun b o hb e => hs₃.extBut b o (Nat.ne_of_gt hb) (hs₂.extBut b o (Nat.ne_of_gt (Nat.lt_trans hLC hb)) e)) hpk)
    ⟨_, (hl.extBut hs₂.extBut (Nat.ne_of_gt hLD)).extBut hs₃.extBut (Nat.ne_of_lt hDC)⟩ (Nat.le_trans S.ge hD) (hn₂.sameBut hs₃ (Nat.ne_of_lt hLC)) fun b o hbL e => hs₃.extBut b o ?_ (hs₂.extBut b o hbL (hk b o e))
  exact Nat.ne_of_lt (Nat.lt_trans (Nat.lt_of_lt_of_le (Heap.lt_size e) (Nat.le_trans S.ge hD)) hDC)

end
end Mine

end

section -- Core4
open PySem PySem.W PyProof.Rows
namespace Mine
section
variable {prog : Program} {w : World} {A : Around} {E : Value → Shared → Prop} {env : Env}

theorem owned_atom {target : Expr} {it v : Value} (hv : ∀ a, v ≠ .ref a) : letOwnedTupleGo target it v = pure () := by
  cases target <;> first
    | rfl
    | (cases v <;> first | exact absurd rfl (hv _) | (cases it <;> rfl))

theorem owned_list {I : Addr} {o : Obj} {cls : String} {target : Expr} {v : Value} {s : Shared} {Q : Unit → Shared → Prop} (ho : s.heap.get? I = some o) (hc : o.cls = .type cls)
    (hn : (["enumerate", "zip", "dict_itemiterator", "dict_reverseitemiterator", "odict_iterator", "itertools.zip_longest", "itertools.pairwise"].contains cls) = false) (h : Q () s) :
    wpAny (model prog w) A (letOwnedTupleGo target (.ref I) v) Q E s := by
  have key : ∀ a, wpAny (model prog w) A (do
      let o ← load I
      match o.cls, o.data with
      | .type n, .fields vs =>
        if ["enumerate", "zip", "dict_itemiterator", "dict_reverseitemiterator", "odict_iterator", "itertools.zip_longest", "itertools.pairwise"].contains n && vs[0]? == some (rawInt a) then
          rule "for.unpacks-the-owned-tuple"
          updateField I 0 .none
      | _, _ => pure ()) Q E s := fun a => by
    refine wpAny_bind (wpAny_load ho ?_)
    rw [hc]
    cases hd : o.data with
    | fields vs =>
      dsimp only
      rw [hn, Bool.false_and]
      exact wpAny_pure h
    | _ => exact wpAny_pure h
  cases target <;> first
    | exact wpAny_pure h
    | (cases v <;> first | exact wpAny_pure h | exact key _)

theorem paired_get {α β : Type} {F : α → β → Prop} : ∀ {xs : List α} {ys : List β}, Paired F xs ys → ∀ (i : Nat) (x : α), xs[i]? = some x → ∃ y, ys[i]? = some y ∧ F x y
  | _, _, .nil, _, _, e => by simp at e
  | _, _, .cons h t, 0, x, e => by simp at e; subst e; exact ⟨_, by simp, h⟩
  | _, _, .cons h t, i + 1, x, e => by simp at e; obtain ⟨y, e1, e2⟩ := paired_get t i x e; exact ⟨y, by simpa using e1, e2⟩

noncomputable def itsOf (l : List PV) (i : Nat) : PV := l.getD i (.atom .none)

theorem mem_one {a b : Addr} (h : a ∈ [b]) : a = b := List.mem_singleton.mp h

theorem iters_seq {s : Shared} {ax : Addr} {vs : List Value} {l : List PV} (hh : A.handled = none) (hl : s.heap.IsList ax (List.toArray vs)) (hp : Paired (Is s.heap) vs l) (hz : l.length ≤ sizeLine) :
    Iters prog w A s (.ref ax) l.length (itsOf l) := by
  intro Q E hQ
  have hlt : ax < s.heap.objs.size := by obtain ⟨_, e, _⟩ := hl; exact Heap.lt_size e
  refine wpAny_pyIter_list hl ?_
  refine hQ s.heap.objs.size [s.heap.objs.size, ax] [s.heap.objs.size] (fun i v => (List.toArray vs)[i]? = some v) (fun i h => h.IsListIter s.heap.objs.size ax i ∧ h.IsList ax (List.toArray vs)) _ ⟨?_, ?_, ?_, ?_, ?_, hz, ?_, ⟨_, _, rfl⟩, by simp [Heap.size_push]⟩
  · have := Walks.list (prog := prog) (w := w) (A := A) hh s.heap.objs.size ax (Nat.ne_of_lt hlt) (List.toArray vs)
    rw [show (List.toArray vs).size = l.length from by simp [hp.length]] at this
    exact this
  · exact ⟨⟨_, Heap.get?_push_size _ rfl, rfl, rfl⟩, hl.push _⟩
  · intro b hb
    show b < (s.heap.push _).objs.size
    rw [Heap.size_push]
    rcases List.mem_cons.mp hb with rfl | hb
    · exact Nat.lt_succ_self _
    · exact mem_one hb ▸ Nat.lt_succ_of_lt hlt
  · intro b o e
    exact ⟨fun hm => Nat.lt_irrefl _ (mem_one hm ▸ Heap.lt_size e), Heap.get?_push_of_some _ e⟩
  · intro i v _ hv
    obtain ⟨q, e1, e2⟩ := paired_get hp i v (by simpa using hv)
    unfold itsOf
    rw [List.getD_eq_getElem?_getD, e1]
    exact e2
  · intro i s' target v Q' E' _ hst h
    obtain ⟨o, ho, hc, _⟩ := hst.1
    exact owned_list ho hc (by decide) h

theorem iters_range {s : Shared} {T : Addr} {n : Nat} {t u r : Tok} (hh : A.handled = none) (hr : IsRange s.heap T 0 n 1 t u r) (hz : n ≤ 1000000) :
    Iters prog w A s (.ref T) n (fun i => .atom (.int i)) := by
  intro Q E hQ
  have hsz : Builtin.Range.rangeSize 0 n 1 = (n : Int) := by
    rw [rangeSize_one]
    split <;> omega
  have hs : Builtin.Range.small 0 n 1 = true := by
    unfold Builtin.Range.small
    rw [hsz]
    have fits : ∀ i : Int, -5 ≤ i → i ≤ 1000005 → Builtin.Range.rangeFitsLong i = true := fun i h1 h2 => by
      unfold Builtin.Range.rangeFitsLong
      have e : (2 : Int) ^ 63 = 9223372036854775808 := by decide
      rw [e]
      simp only [Bool.and_eq_true, decide_eq_true_eq]
      omega
    rw [fits 0 (by omega) (by omega), fits n (by omega) (by omega), fits 1 (by omega) (by omega), if_pos (by decide), fits (n + (1 - 1)) (by omega) (by omega)]
    simp
  refine wpAny_pyIter_range hr hs ?_
  refine hQ s.heap.objs.size [s.heap.objs.size] [s.heap.objs.size] _ _ _ ⟨Walks.range hh s.heap.objs.size 0 1 n, ?_, ?_, ?_, ?_, ?_, ?_, ⟨_, _, rfl⟩, by simp [Heap.size_push]⟩
  · rw [hsz]
    show IsRangeIter _ _ (0 + ((0 : Nat) : Int) * 1) ((n : Int) - ((0 : Nat) : Int)) 1
    rw [show (0 + ((0 : Nat) : Int) * 1) = 0 from by simp, show ((n : Int) - ((0 : Nat) : Int)) = n from by simp]
    exact Heap.get?_push_size _ rfl
  · intro b hb
    rw [mem_one hb]
    show _ < (s.heap.push _).objs.size
    rw [Heap.size_push]
    exact Nat.lt_succ_self _
  · intro b o e
    exact ⟨fun hm => Nat.lt_irrefl _ (mem_one hm ▸ Heap.lt_size e), Heap.get?_push_of_some _ e⟩
  · rintro i v _ ⟨t, rfl⟩
    exact ⟨t, by simp⟩
  · exact Nat.le_trans hz (by decide)
  · rintro i s' target v Q' E' ⟨t, rfl⟩ _ h
    rw [owned_atom (by intro a; exact nofun)]
    exact wpAny_pure h

noncomputable def chars (x : Str) : List PV := x.cps.toList.map fun c => PV.atom (.str ⟨#[c]⟩)
theorem iters_str {s : Shared} {x : Str} {t : Tok} (hh : A.handled = none) (hz : x.cps.size ≤ sizeLine) :
    Iters prog w A s (.str x t) (chars x).length (itsOf (chars x)) := by
  intro Q E hQ
  refine wpAny_pyIter_str fun o St hW hst => ?_
  refine hQ s.heap.objs.size [s.heap.objs.size] [s.heap.objs.size] (SignAt x) St _ ⟨?_, hst, ?_, ?_, ?_, ?_, ?_, ⟨_, _, rfl⟩, by simp [Heap.size_push]⟩
  · have := hW A hh
    rw [show (chars x).length = x.cps.size from by simp [chars]]
    exact this
  · intro b hb
    rw [mem_one hb]
    show _ < (s.heap.push _).objs.size
    rw [Heap.size_push]
    exact Nat.lt_succ_self _
  · intro b o e
    exact ⟨fun hm => Nat.lt_irrefl _ (mem_one hm ▸ Heap.lt_size e), Heap.get?_push_of_some _ e⟩
  · rintro i v _ ⟨c, u, hc, rfl⟩
    have : (chars x)[i]? = some (.atom (.str ⟨#[c]⟩)) := by simp [chars, hc]
    unfold itsOf
    rw [List.getD_eq_getElem?_getD, this]
    exact ⟨u, rfl⟩
  · simpa [chars] using hz
  · rintro i s' target v Q' E' ⟨c, u, _, rfl⟩ _ h
    rw [owned_atom (by intro a; exact nofun)]
    exact wpAny_pure h

noncomputable def octs (b : Array UInt8) : List PV := b.toList.map fun c => PV.atom (.int c.toNat)
theorem iters_bytes {s : Shared} {b : Array UInt8} {t : Tok} (hh : A.handled = none) (hz : b.size ≤ sizeLine) :
    Iters prog w A s (.bytes b t) (octs b).length (itsOf (octs b)) := by
  intro Q E hQ
  refine KBw.pyIter_bytes ?_
  refine hQ s.heap.objs.size [s.heap.objs.size] [s.heap.objs.size] (fun i v => ∃ c u, b[i]? = some c ∧ v = .int (UInt8.toNat c : Int) u) (fun i h => KBw.IsBytesIter h s.heap.objs.size b t i) _ ⟨?_, ?_, ?_, ?_, ?_, ?_, ?_, ⟨_, _, rfl⟩, by simp [Heap.size_push]⟩
  · rw [show (octs b).length = b.size from by simp [octs]]
    exact KBw.walks hh s.heap.objs.size b t
  · exact ⟨_, Heap.get?_push_size _ rfl, rfl, rfl⟩
  · intro b hb
    rw [mem_one hb]
    show _ < (s.heap.push _).objs.size
    rw [Heap.size_push]
    exact Nat.lt_succ_self _
  · intro b o e
    exact ⟨fun hm => Nat.lt_irrefl _ (mem_one hm ▸ Heap.lt_size e), Heap.get?_push_of_some _ e⟩
  · rintro i v _ ⟨c, u, hc, rfl⟩
    have : (octs b)[i]? = some (.atom (.int c.toNat)) := by simp [octs, hc]
    unfold itsOf
    rw [List.getD_eq_getElem?_getD, this]
    exact ⟨u, rfl⟩
  · simpa [octs] using hz
  · rintro i s' target v Q' E' ⟨c, u, _, rfl⟩ _ h
    rw [owned_atom (by intro a; exact nofun)]
    exact wpAny_pure h

end
end Mine

end

section -- Ops1
open PySem PySem.W PyProof.Rows
namespace Mine

structure Ok (n : Nat) (A : Around) : Prop where
  hh : A.handled = none
  hd : A.depth + n < recursionLimit
  hu : A.units + 100 + 10 * n < cLine

theorem Ok.le {n k : Nat} {A : Around} (o : Ok n A) (h : k ≤ n) : Ok k A := ⟨o.hh, by have := o.hd; omega, by have := o.hu; omega⟩
theorem Ok.deeper {n : Nat} {A : Around} {env : Env} (o : Ok (n + 1) A) : Ok n (A.deeper env) := ⟨o.hh, by have := o.hd; show A.depth + 1 + n < _; omega, by have := o.hu; show A.units + 3 + _ + _ < _; omega⟩

noncomputable def binA (op : Operator) : AV → AV → Option AV
  | .int a, .int b => match op with
    | .Add => some (.int (a + b))
    | .Sub => some (.int (a - b))
    | .Mult => if a.natAbs < 18446744073709551616 then some (.int (a * b)) else none
    | .FloorDiv => if b ≠ 0 ∧ b.natAbs < 1073741824 then some (.int (a.fdiv b)) else none
    | .Mod => if b ≠ 0 then some (.int (a.fmod b)) else none
    | .Pow => if 0 ≤ b ∧ b ≤ 1000 ∧ a.natAbs < 1000 then some (.int (a ^ b.toNat)) else none
    | .RShift => if 0 ≤ b then some (.int (a.fdiv (2 ^ b.toNat))) else none
    | _ => none
  | .str x, .str y => match op with
    | .Add => if x.length + y.length ≤ 1000000 then some (.str (x ++ y)) else none
    | _ => none
  | .str x, .int n => match op with
    | .Mult => if x.length ≤ 1000 ∧ -1000 ≤ n ∧ n ≤ 1000 then some (.str (Txt.mul x n)) else none
    | _ => none
  | _, _ => none

noncomputable def binP (op : Operator) : PV → PV → Option PV
  | .atom a, .atom b => (binA op a b).map .atom
  | .list a, .list b => match op with
    | .Add => if a.length + b.length ≤ 1000000 then some (.list (a ++ b)) else none
    | _ => none
  | .tups a, .tups b => match op with
    | .Add => if a.length + b.length ≤ 1000000 then some (.tups (a ++ b)) else none
    | _ => none
  | _, _ => none

section
variable {prog : Program} {w : World} {A : Around} {n : Nat} {s : Shared}

theorem tok_keeps (s : Shared) (tk : Nat) : Keeps s { s with toks := tk } := ⟨s.heap, tk, rfl, fun _ _ e => e⟩

theorem sizeLine_is : sizeLine = 16777216 := by decide

theorem mulOk_small {x : Str} {k : Int} (h1 : x.length ≤ 1000) (h2 : -1000 ≤ k) (h3 : k ≤ 1000) : MulOk x k := by
  refine ⟨by simp; omega, fun hn _ => ?_, fun hn _ => ?_⟩
  · have hk : 1 ≤ k := by omega
    have : (1000 : Int) ≤ (2 ^ 63 - 1) / k := by
      rw [Int.le_ediv_iff_mul_le (by omega)]
      have : (1000 : Int) * k ≤ 1000000 := by omega
      omega
    omega
  · unfold Builtin.Str.tooLong
    refine decide_eq_false ?_
    have : x.length * k.toNat ≤ 1000 * 1000 := Nat.mul_le_mul h1 (by omega)
    rw [sizeLine_is]
    omega

theorem binA_ok {op : Operator} {p q r : AV} {a b : Value} (h : binA op p q = some r) (ha : AIs a p) (hb : AIs b q) : Gives prog w A (binaryOp op a b) (.atom r) s := by
  intro Q E hQ
  cases p with
  | int i =>
    obtain ⟨t, rfl⟩ := ha
    cases q with
    | int j =>
      obtain ⟨u, rfl⟩ := hb
      cases op with
      | Add => cases h; exact PyProof.Rows.add_int (hQ _ _ ⟨_, rfl⟩ (tok_keeps _ _))
      | Sub => cases h; exact P.sub_int (hQ _ _ ⟨_, rfl⟩ (tok_keeps _ _))
      | Mult =>
        replace h : (if i.natAbs < 18446744073709551616 then some (AV.int (i * j)) else none) = some r := h
        split at h
        · rename_i hc
          cases h
          refine PyProof.Rows.mul_int (hQ _ _ ⟨_, rfl⟩ (tok_keeps _ _)) (IntMulOk.of_left (intBits_le_64 ?_ ?_)) <;> omega
        · first | exact no_some h | cases h
      | FloorDiv =>
        replace h : (if j ≠ 0 ∧ j.natAbs < 1073741824 then some (AV.int (i.fdiv j)) else none) = some r := h
        split at h
        · rename_i hc
          cases h
          exact PyProof.Rows.floordiv_int hc.1 (hQ _ _ ⟨_, rfl⟩ (tok_keeps _ _)) (Or.inl (PyProof.noPylong_small hc.2))
        · first | exact no_some h | cases h
      | Mod =>
        replace h : (if j ≠ 0 then some (AV.int (i.fmod j)) else none) = some r := h
        split at h
        · rename_i hc
          cases h
          exact PyProof.Rows.mod_int' hc (hQ _ _ ⟨_, rfl⟩ (tok_keeps _ _))
        · first | exact no_some h | cases h
      | Pow =>
        replace h : (if 0 ≤ j ∧ j ≤ 1000 ∧ i.natAbs < 1000 then some (AV.int (i ^ j.toNat)) else none) = some r := h
        split at h
        · rename_i hc
          cases h
          exact PyProof.Rows.pow_int_small hc.1 (by omega) (by omega) (hQ _ _ ⟨_, rfl⟩ (tok_keeps _ _))
        · first | exact no_some h | cases h
      | RShift =>
        replace h : (if 0 ≤ j then some (AV.int (i.fdiv (2 ^ j.toNat))) else none) = some r := h
        split at h
        · rename_i hc
          cases h
          exact PyProof.Rows.rshift_int hc (hQ _ _ ⟨_, rfl⟩ (tok_keeps _ _))
        · first | exact no_some h | cases h
      | _ => first | exact no_some h | cases h
    | _ => first | exact no_some h | cases h
  | str x =>
    obtain ⟨t, rfl⟩ := ha
    cases q with
    | str y =>
      obtain ⟨u, rfl⟩ := hb
      cases op with
      | Add =>
        replace h : (if x.length + y.length ≤ 1000000 then some (AV.str (x ++ y)) else none) = some r := h
        split at h
        · rename_i hc
          cases h
          exact PyProof.Rows.add_str (fun t' tk => hQ _ _ ⟨_, rfl⟩ (tok_keeps _ _)) (by rw [sizeLine_is]; omega)
        · first | exact no_some h | cases h
      | _ => first | exact no_some h | cases h
    | int j =>
      obtain ⟨u, rfl⟩ := hb
      cases op with
      | Mult =>
        replace h : (if x.length ≤ 1000 ∧ -1000 ≤ j ∧ j ≤ 1000 then some (AV.str (Txt.mul x j)) else none) = some r := h
        split at h
        · rename_i hc
          cases h
          exact SB.mul (mulOk_small hc.1 hc.2.1 hc.2.2) (fun t' tk => hQ _ _ ⟨_, rfl⟩ (tok_keeps _ _))
        · first | exact no_some h | cases h
      | _ => first | exact no_some h | cases h
    | _ => first | exact no_some h | cases h
  | _ => first | exact no_some h | cases h

theorem paired_append {α β : Type} {F : α → β → Prop} : ∀ {a b : List α} {c d : List β}, Paired F a c → Paired F b d → Paired F (a ++ b) (c ++ d)
  | _, _, _, _, .nil, h => h
  | _, _, _, _, .cons x t, h => .cons x (paired_append t h)

theorem push_keeps (s : Shared) (o : Obj) : Keeps s { s with heap := s.heap.push o } := ⟨_, s.toks, rfl, fun _ _ e => Heap.get?_push_of_some _ e⟩
theorem isList_new (h : Heap) (vs : List Value) : (h.push { cls := .type "list", data := .seq (List.toArray vs) }).IsList h.objs.size (List.toArray vs) := ⟨_, Heap.get?_push_size _ rfl, rfl, _, rfl⟩
theorem isTuple_new (h : Heap) (vs : List Value) : (h.push { cls := .type "tuple", data := .seq (List.toArray vs) }).IsTuple h.objs.size (List.toArray vs) := ⟨_, Heap.get?_push_size _ rfl, rfl, _, rfl⟩

theorem addL {a b : Addr} {vs us : List Value} {Q : Value → Shared → Prop} {E : Value → Shared → Prop} (ha : s.heap.IsList a (List.toArray vs)) (hb : s.heap.IsList b (List.toArray us)) (hz : vs.length + us.length ≤ 1000000)
    (h : Q (.ref s.heap.objs.size) { s with heap := s.heap.push { cls := .type "list", data := .seq (List.toArray (vs ++ us)) } }) : wpAny (model prog w) A (binaryOp .Add (.ref a) (.ref b)) Q E s := by
  obtain ⟨⟨cls, dd, data, sl⟩, ho, hc, n, hd⟩ := ha
  obtain ⟨⟨cls2, dd2, data2, sl2⟩, ho2, hc2, n2, hd2⟩ := hb
  simp only at hc hd hc2 hd2
  subst hc hd hc2 hd2
  refine concat_meets ⟨_, ho, rfl⟩ ⟨_, ho2, rfl⟩ noFill_list_add seq_list_add PySem.F.slot_list_add PySem.F.entry_list_add (PySem.F.args_list_add_2 _ _) (list_addW a b (List.toArray vs) (List.toArray us) n n2 dd dd2 sl sl2 (by rw [sizeLine_is]; simp; omega)) ⟨ho, ho2, ?_⟩
  rw [show List.toArray vs ++ List.toArray us = List.toArray (vs ++ us) from by simp]
  exact h

theorem binP_ok {op : Operator} {p q r : PV} {a b : Value} (h : binP op p q = some r) (ha : Is s.heap a p) (hb : Is s.heap b q) : Gives prog w A (binaryOp op a b) r s := by
  cases p with
  | atom x =>
    cases q with
    | atom y =>
      replace h : (binA op x y).map PV.atom = some r := h
      rw [Option.map_eq_some_iff] at h
      obtain ⟨c, hc, rfl⟩ := h
      exact binA_ok hc ha hb
    | _ => first | exact no_some h | cases h
  | list x =>
    cases q with
    | list y =>
      cases op with
      | Add =>
        replace h : (if x.length + y.length ≤ 1000000 then some (PV.list (x ++ y)) else none) = some r := h
        split at h
        · rename_i hz
          cases h
          obtain ⟨T, vs, rfl, hl, pa⟩ := ha
          obtain ⟨U, us, rfl, hl2, pb⟩ := hb
          intro Q E hQ
          refine addL hl hl2 (by rw [pa.length, pb.length]; exact hz) (hQ _ _ ⟨_, _, rfl, isList_new _ _, paired_append pa pb⟩ (push_keeps _ _))
        · first | exact no_some h | cases h
      | _ => first | exact no_some h | cases h
    | _ => first | exact no_some h | cases h
  | tups x =>
    cases q with
    | tups y =>
      cases op with
      | Add =>
        replace h : (if x.length + y.length ≤ 1000000 then some (PV.tups (x ++ y)) else none) = some r := h
        split at h
        · rename_i hz
          cases h
          obtain ⟨T, vs, rfl, hl, pa⟩ := ha
          obtain ⟨U, us, rfl, hl2, pb⟩ := hb
          intro Q E hQ
          refine addL hl hl2 (by rw [pa.length, pb.length]; exact hz) (hQ _ _ ⟨_, _, rfl, isList_new _ _, ?_⟩ (push_keeps _ _))
          exact (paired_append pa pb).mono fun _ _ q => TIs.keepS q fun b o _ _ e _ => Heap.get?_push_of_some _ e
        · first | exact no_some h | cases h
      | _ => first | exact no_some h | cases h
    | _ => first | exact no_some h | cases h
  | _ => first | exact no_some h | cases h

end
end Mine

end

section -- Ops2
open PySem PySem.W PyProof.Rows
namespace Mine

noncomputable def AV.toPy : AV → Option PyData
  | .none => some .none
  | .bool b => some (.bool b)
  | .int i => some (.int i)
  | .str x => some (.str x)
  | .bytes _ => Option.none

noncomputable def allPy : List AV → Option (List PyData)
  | [] => some []
  | a :: l => match a.toPy, allPy l with
    | some d, some ds => some (d :: ds)
    | _, _ => none

noncomputable def allTup : List (List AV) → Option (List PyData)
  | [] => some []
  | a :: l => match allPy a, allTup l with
    | some d, some ds => some (.tuple d :: ds)
    | _, _ => none

noncomputable def PV.toPy : PV → Option PyData
  | .atom a => a.toPy
  | .tup l => (allPy l).map .tuple
  | .list l => (allPy l).map .list
  | .tups l => (allTup l).map .list
  | _ => none

theorem reads_atom {h : Heap} {v : Value} {a : AV} {d : PyData} (x : AIs v a) (e : a.toPy = some d) : Reads h v d [] := by
  cases a with
  | none => cases e; cases x; exact .none
  | bool b => cases e; cases x; exact .bool b
  | int i => cases e; obtain ⟨t, rfl⟩ := x; exact .int i t
  | str i => cases e; obtain ⟨t, rfl⟩ := x; exact .str i t
  | bytes _ => first | exact no_some e | cases e

theorem reads_atoms {h : Heap} : ∀ {vs : List Value} {l : List AV} {ds : List PyData}, Paired AIs vs l → allPy l = some ds → ReadsAll h vs ds []
  | _, _, ds, .nil, e => by cases e; exact .nil
  | _, _, ds, .cons (b := b) x t, e => by
    simp only [allPy] at e
    split at e
    · rename_i d ds' e1 e2
      cases e
      exact .cons (as := []) (bs := []) (reads_atom x e1) (reads_atoms t e2)
    · first | exact no_some e | cases e

theorem reads_tup {h : Heap} {v : Value} {l : List AV} {ds : List PyData} (x : TIs h v l) (e : allPy l = some ds) : Reads h v (.tuple ds) [] := by
  obtain ⟨T, vs, rfl, ⟨o, ho, hc, n, hd⟩, p⟩ := x
  exact .tuple ho hc hd (by simpa using reads_atoms p e)

theorem reads_tups {h : Heap} : ∀ {vs : List Value} {l : List (List AV)} {ds : List PyData}, Paired (TIs h) vs l → allTup l = some ds → ReadsAll h vs ds []
  | _, _, ds, .nil, e => by cases e; exact .nil
  | _, _, ds, .cons (b := b) x t, e => by
    simp only [allTup] at e
    split at e
    · rename_i d ds' e1 e2
      cases e
      exact .cons (as := []) (bs := []) (reads_tup x e1) (reads_tups t e2)
    · first | exact no_some e | cases e

theorem reads_of {h : Heap} {v : Value} {p : PV} {d : PyData} (x : Is h v p) (e : p.toPy = some d) : ∃ as, Reads h v d as := by
  cases p with
  | atom a => exact ⟨_, reads_atom x e⟩
  | tup l =>
    simp only [PV.toPy, Option.map_eq_some_iff] at e
    obtain ⟨ds, e1, rfl⟩ := e
    exact ⟨_, reads_tup x e1⟩
  | list l =>
    simp only [PV.toPy, Option.map_eq_some_iff] at e
    obtain ⟨ds, e1, rfl⟩ := e
    obtain ⟨T, vs, rfl, ⟨o, ho, hc, n, hd⟩, p⟩ := x
    exact ⟨_, .list ho hc hd (by simpa using reads_atoms p e1)⟩
  | tups l =>
    simp only [PV.toPy, Option.map_eq_some_iff] at e
    obtain ⟨ds, e1, rfl⟩ := e
    obtain ⟨T, vs, rfl, ⟨o, ho, hc, n, hd⟩, p⟩ := x
    exact ⟨_, .list ho hc hd (by simpa using reads_tups p e1)⟩
  | _ => first | exact no_some e | cases e

noncomputable def eqD (p q : PV) : Option Bool := match p.toPy, q.toPy with
  | some a, some b => if a.canLay0 && b.canLay0 && decide (a.depth ≤ 50) then some (PyData.eqv a b) else none
  | _, _ => none

noncomputable def inD (p q : PV) : Option Bool := match p, q with
  | .atom (.str y), .atom (.str x) => some (!(Builtin.Str.occurrences x y 0 x.length 1).isEmpty)
  | _, _ => match p.toPy, q.toPy with
    | some d, some (.list xs) => if d.canLay0 && PyData.canLayAll0 xs && decide (d.depth ≤ 50) then some (xs.any fun y => PyData.eqv y d) else none
    | some d, some (.tuple xs) => if d.canLay0 && PyData.canLayAll0 xs && decide (d.depth ≤ 50) then some (xs.any fun y => PyData.eqv y d) else none
    | _, _ => none

noncomputable def cmpP (op : CmpOp) (p q : PV) : Option Bool := match op with
  | .Eq => eqD p q
  | .NotEq => (eqD p q).map (!·)
  | .In => inD p q
  | .NotIn => (inD p q).map (!·)
  | .Lt => match p, q with | .atom (.int a), .atom (.int b) => some (decide (a < b)) | _, _ => none
  | .GtE => match p, q with | .atom (.int a), .atom (.int b) => some (decide (b ≤ a)) | _, _ => none
  | .Gt => match p, q with | .atom (.int a), .atom (.int b) => some (decide (b < a)) | _, _ => none
  | _ => none

section
variable {prog : Program} {w : World} {A : Around} {n : Nat} {s : Shared}

theorem eqD_some {p q : PV} {c : Bool} (h : eqD p q = some c) : ∃ a b, p.toPy = some a ∧ q.toPy = some b ∧ a.canLay0 = true ∧ b.canLay0 = true ∧ a.depth ≤ 50 ∧ c = PyData.eqv a b := by
  unfold eqD at h
  split at h
  · rename_i a b e1 e2
    split at h
    · rename_i hc
      cases h
      simp only [Bool.and_eq_true, decide_eq_true_eq] at hc
      exact ⟨a, b, e1, e2, hc.1.1, hc.1.2, hc.2, rfl⟩
    · first | exact no_some h | cases h
  · first | exact no_some h | cases h

theorem lt_int_ok {i j : Int} {t u : Tok} {Q E} (h : Q (.bool (decide (i < j))) s) : wpAny (model prog w) A (compareOp .Lt (.int i t) (.int j u)) Q E s := P.lt_int h

theorem room_le {u a b k : Nat} (h : u + k < cLine) (ha : a ≤ k) : u + min a b < cLine := by
  have := Nat.min_le_left a b
  omega

theorem cmpP_ok {op : CmpOp} {p q : PV} {c : Bool} {a b : Value} (ok : Ok n A) (h : cmpP op p q = some c) (ha : Is s.heap a p) (hb : Is s.heap b q)
    {Q : Value → Shared → Prop} {E : Value → Shared → Prop} (hQ : Q (.bool c) s) : wpAny (model prog w) A (compareOp op a b) Q E s := by
  have hu := ok.hu
  cases op with
  | Eq =>
    obtain ⟨da, db, e1, e2, c1, c2, c3, rfl⟩ := eqD_some h
    obtain ⟨as, ra⟩ := reads_of ha e1
    obtain ⟨bs, rb⟩ := reads_of hb e2
    exact SeqAt.compareEq_reads ra rb c1 c2 (room_le (k := 50) (by omega) c3) hQ
  | NotEq =>
    simp only [cmpP, Option.map_eq_some_iff] at h
    obtain ⟨c', h, rfl⟩ := h
    obtain ⟨da, db, e1, e2, c1, c2, c3, rfl⟩ := eqD_some h
    obtain ⟨as, ra⟩ := reads_of ha e1
    obtain ⟨bs, rb⟩ := reads_of hb e2
    exact SeqAt.compareNe_reads ra rb c1 c2 (room_le (k := 50) (by omega) c3) hQ
  | Lt =>
    simp only [cmpP] at h
    split at h
    · first | exact no_some h | cases h
      obtain ⟨t, rfl⟩ := ha
      obtain ⟨u, rfl⟩ := hb
      exact P.lt_int hQ
    · first | exact no_some h | cases h
  | GtE =>
    simp only [cmpP] at h
    split at h
    · first | exact no_some h | cases h
      obtain ⟨t, rfl⟩ := ha
      obtain ⟨u, rfl⟩ := hb
      exact PyProof.Rows.ge_int hQ
    · first | exact no_some h | cases h
  | Gt =>
    simp only [cmpP] at h
    split at h
    · first | exact no_some h | cases h
      obtain ⟨t, rfl⟩ := ha
      obtain ⟨u, rfl⟩ := hb
      exact P.gt_int hQ
    · first | exact no_some h | cases h
  | In =>
    simp only [cmpP, inD] at h
    split at h
    · first | exact no_some h | cases h
      obtain ⟨t, rfl⟩ := ha
      obtain ⟨u, rfl⟩ := hb
      exact PyProof.Rows.in_str hQ
    · split at h
      · rename_i d xs e1 e2
        split at h
        · rename_i hc
          cases h
          simp only [Bool.and_eq_true, decide_eq_true_eq] at hc
          obtain ⟨as, ra⟩ := reads_of ha e1
          obtain ⟨bs, rb⟩ := reads_of hb e2
          exact SeqAt.in_list_reads rb ra hc.1.2 hc.1.1 (by have := Nat.min_le_right (PyData.depthAll xs) d.depth; omega) hQ
        · first | exact no_some h | cases h
      · rename_i d xs e1 e2
        split at h
        · rename_i hc
          cases h
          simp only [Bool.and_eq_true, decide_eq_true_eq] at hc
          obtain ⟨as, ra⟩ := reads_of ha e1
          obtain ⟨bs, rb⟩ := reads_of hb e2
          exact SeqAt.in_tuple_reads rb ra hc.1.2 hc.1.1 (by have := Nat.min_le_right (PyData.depthAll xs) d.depth; omega) hQ
        · first | exact no_some h | cases h
      · first | exact no_some h | cases h
  | NotIn =>
    simp only [cmpP, inD, Option.map_eq_some_iff] at h
    obtain ⟨c', h, rfl⟩ := h
    split at h
    · first | exact no_some h | cases h
      obtain ⟨t, rfl⟩ := ha
      obtain ⟨u, rfl⟩ := hb
      exact PyProof.Rows.notIn_str hQ
    · split at h
      · rename_i d xs e1 e2
        split at h
        · rename_i hc
          cases h
          simp only [Bool.and_eq_true, decide_eq_true_eq] at hc
          obtain ⟨as, ra⟩ := reads_of ha e1
          obtain ⟨bs, rb⟩ := reads_of hb e2
          exact SeqAt.notIn_list_reads rb ra hc.1.2 hc.1.1 (by have := Nat.min_le_right (PyData.depthAll xs) d.depth; omega) hQ
        · first | exact no_some h | cases h
      · rename_i d xs e1 e2
        split at h
        · rename_i hc
          cases h
          simp only [Bool.and_eq_true, decide_eq_true_eq] at hc
          obtain ⟨as, ra⟩ := reads_of ha e1
          obtain ⟨bs, rb⟩ := reads_of hb e2
          exact SeqAt.notIn_tuple_reads rb ra hc.1.2 hc.1.1 (by have := Nat.min_le_right (PyData.depthAll xs) d.depth; omega) hQ
        · first | exact no_some h | cases h
      · first | exact no_some h | cases h
  | _ => first | exact no_some h | cases h

noncomputable def truthP : PV → Option Bool
  | .atom .none => some false
  | .atom (.bool b) => some b
  | .atom (.int i) => some (i != 0)
  | .atom (.str x) => if x.length ≤ 1000000 then some (x.length != 0) else none
  | _ => none

theorem truthP_ok {p : PV} {c : Bool} {a : Value} (h : truthP p = some c) (ha : Is s.heap a p) {Q : Bool → Shared → Prop} {E : Value → Shared → Prop} (hQ : ∀ s', Keeps s s' → Q c s') : wpAny (model prog w) A (truthy a) Q E s := by
  cases p with
  | atom x =>
    cases x with
    | none => cases h; cases ha; exact wpAny_pure (hQ _ (keeps_refl _))
    | bool b => cases h; cases ha; exact wpAny_truthy_bool (hQ _ (keeps_refl _))
    | int i => cases h; obtain ⟨t, rfl⟩ := ha; exact P.truthy_int (hQ _ (keeps_refl _))
    | str x =>
      simp only [truthP] at h
      split at h
      · first | exact no_some h | cases h
        obtain ⟨t, rfl⟩ := ha
        refine P.truthy_str (by omega) ?_
        have : ((x.length : Int) != 0) = (x.length != 0) := by
          rw [Bool.eq_iff_iff]
          simp
        rw [this]
        exact hQ _ (tok_keeps _ _)
      · first | exact no_some h | cases h
    | bytes _ => first | exact no_some h | cases h
  | _ => first | exact no_some h | cases h

end
end Mine

end

section -- Ops3
open PySem PySem.W PyProof.Rows
namespace Mine

noncomputable def charP (x : Str) (i : Int) : Option Nat := (seqIndex? i x.length).bind (x.cps[·]?)

noncomputable def itemP : PV → PV → Option PV
  | .list l, .atom (.int k) => if 0 ≤ k ∧ k < 1000000 then (l[k.toNat]?).map .atom else none
  | .tups l, .atom (.int k) => if 0 ≤ k ∧ k < 1000000 then (l[k.toNat]?).map .tup else none
  | .tup l, .atom (.int k) => if 0 ≤ k ∧ k < 1000000 then (l[k.toNat]?).map .atom else none
  | .atom (.str x), .atom (.int k) => if -1000000 ≤ k ∧ k < 1000000 then (charP x k).map fun c => .atom (.str ⟨#[c]⟩) else none
  | _, _ => none

noncomputable def partP : AV → Option (Option Int)
  | .none => some none
  | .int i => some (some i)
  | _ => none

noncomputable def sliceP (p : PV) (lo hi : AV) : Option PV := match p with
  | .list l => match lo, hi with
    | .none, .int y => if 0 ≤ y ∧ l.length ≤ 1000000 then some (.list (l.take y.toNat)) else none
    | .int x, .none => if 0 ≤ x ∧ l.length ≤ 1000000 then some (.list (l.drop x.toNat)) else none
    | _, _ => none
  | .atom (.str x) => match partP lo, partP hi with
    | some l, some u => if x.length ≤ 1000000 then some (.atom (.str (Txt.slice x l u))) else none
    | _, _ => none
  | _ => none

theorem paired_get' {α β : Type} {F : α → β → Prop} : ∀ {xs : List α} {ys : List β}, Paired F xs ys → ∀ (i : Nat) (y : β), ys[i]? = some y → ∃ x, xs[i]? = some x ∧ F x y
  | _, _, .nil, _, _, e => by simp at e
  | _, _, .cons h t, 0, x, e => by simp at e; subst e; exact ⟨_, by simp, h⟩
  | _, _, .cons h t, i + 1, x, e => by simp at e; obtain ⟨y, e1, e2⟩ := paired_get' t i x e; exact ⟨y, by simpa using e1, e2⟩
theorem paired_take {α β : Type} {F : α → β → Prop} : ∀ {xs : List α} {ys : List β}, Paired F xs ys → ∀ k : Nat, Paired F (xs.take k) (ys.take k)
  | _, _, _, 0 => by simpa using Paired.nil
  | _, _, .nil, _ + 1 => by simpa using Paired.nil
  | _, _, .cons h t, k + 1 => by simpa using Paired.cons h (paired_take t k)
theorem paired_drop {α β : Type} {F : α → β → Prop} : ∀ {xs : List α} {ys : List β}, Paired F xs ys → ∀ k : Nat, Paired F (xs.drop k) (ys.drop k)
  | _, _, h, 0 => by simpa using h
  | _, _, .nil, _ + 1 => by simpa using Paired.nil
  | _, _, .cons h t, k + 1 => by simpa using paired_drop t k

section
variable {prog : Program} {w : World} {A : Around} {n : Nat} {s : Shared}

theorem big63 : (2 : Int) ^ 63 = 9223372036854775808 := by decide

noncomputable def notSlice : Expr → Bool
  | .Slice .. => false
  | _ => true

theorem sub_notSlice {e : Expr} (h : notSlice e = true) (o i : Value) : subscripted e false o i = operate [o, i] (getItem o i) := by
  cases e <;> first | rfl | cases h

theorem itemP_ok {p q r : PV} {a b : Value} {value slice : Expr} (h : itemP p q = some r) (hn : notSlice slice = true) (ha : Is s.heap a p) (hb : Is s.heap b q) : Gives prog w A (subscriptTail value slice a b) r s := by
  intro Q E hQ
  unfold itemP at h
  split at h
  · rename_i l k
    split at h
    · rename_i hk
      simp only [Option.map_eq_some_iff] at h
      obtain ⟨c, hc, rfl⟩ := h
      obtain ⟨T, vs, rfl, hl, pa⟩ := ha
      obtain ⟨t, rfl⟩ := hb
      obtain ⟨x, e1, e2⟩ := paired_get' pa _ _ hc
      exact tail_any hl.typeIs slot_list_getitem.lookup (wpAny_getItem_list hl hk.1 (by rw [big63]; omega) (by simpa using e1) (hQ _ _ e2 (keeps_refl _))) (sub_notSlice hn _ _)
    · first | exact no_some h | cases h
  · rename_i l k
    split at h
    · rename_i hk
      simp only [Option.map_eq_some_iff] at h
      obtain ⟨c, hc, rfl⟩ := h
      obtain ⟨T, vs, rfl, hl, pa⟩ := ha
      obtain ⟨t, rfl⟩ := hb
      obtain ⟨x, e1, e2⟩ := paired_get' pa _ _ hc
      exact tail_any hl.typeIs slot_list_getitem.lookup (wpAny_getItem_list hl hk.1 (by rw [big63]; omega) (by simpa using e1) (hQ _ _ e2 (keeps_refl _))) (sub_notSlice hn _ _)
    · first | exact no_some h | cases h
  · rename_i l k
    split at h
    · rename_i hk
      simp only [Option.map_eq_some_iff] at h
      obtain ⟨c, hc, rfl⟩ := h
      obtain ⟨T, vs, rfl, hl, pa⟩ := ha
      obtain ⟨t, rfl⟩ := hb
      obtain ⟨x, e1, e2⟩ := paired_get' pa _ _ hc
      have hlt : k.toNat < vs.length := by
        have := List.getElem?_eq_some_iff.mp e1
        exact this.1
      have hj : seqIndex? k (List.toArray vs).size = some k.toNat := by
        unfold seqIndex?
        simp only [List.size_toArray]
        simp
        omega
      have hT : IsTup s.heap T (List.toArray vs) := hl
      exact tail_any hT.typeIs slot_tuple_getitem.lookup (getItem_tuple hT (by omega) (by rw [big63]; omega) hj (by simpa using e1) (hQ _ _ e2 (keeps_refl _))) (sub_notSlice hn _ _)
    · first | exact no_some h | cases h
  · rename_i x k
    split at h
    · rename_i hk
      simp only [Option.map_eq_some_iff] at h
      obtain ⟨c, hc, rfl⟩ := h
      obtain ⟨t, rfl⟩ := ha
      obtain ⟨u, rfl⟩ := hb
      refine tail_any (typeIs_str _ _ _) slot_str_getitem.lookup (PyProof.Rows.getItem_str ?_ hc (hQ _ _ ⟨_, rfl⟩ (tok_keeps _ _))) (sub_notSlice hn _ _)
      rw [big63]
      simp
      omega
    · first | exact no_some h | cases h
  · first | exact no_some h | cases h

theorem isPart_of {v : Value} {a : AV} {o : Option Int} (x : AIs v a) (e : partP a = some o) : IsPart v o := by
  cases a with
  | none => cases e; cases x; exact .none
  | int i => cases e; obtain ⟨t, rfl⟩ := x; exact .int i t
  | _ => first | exact no_some e | cases e

theorem part_tok {v : Value} {a : AV} {o : Option Int} (x : AIs v a) (e : partP a = some o) : ∃ l : Option (Int × Tok), l.map (·.1) = o ∧ v = partValue l := by
  cases a with
  | none => cases e; cases x; exact ⟨none, rfl, rfl⟩
  | int i => cases e; obtain ⟨t, rfl⟩ := x; exact ⟨some (i, t), rfl, rfl⟩
  | _ => first | exact no_some e | cases e

theorem sliceP_ok {p r : PV} {lo hi : AV} {a vl vu : Value} {value : Expr} {l u : Option Expr} {pos : Pos} (h : sliceP p lo hi = some r) (ha : Is s.heap a p) (hl : AIs vl lo) (hu : AIs vu hi) {Q : Value → Shared → Prop} {E : Value → Shared → Prop} (hQ : ∀ v s', Is s'.heap v r → Keeps s s' → Q v s') :
    wpAny (model prog w) A (newFields "slice" [vl, vu, .none]) (fun i s' => wpAny (model prog w) A (subscriptTail value (.Slice l u none pos) a i) Q E s') E s := by
  refine wpAny_newObj_type ?_
  have hs : ∀ o i, subscripted (.Slice l u none pos) false o i = operate [i, o] (getItem o i) := fun _ _ => rfl
  cases p with
  | list al =>
    simp only [sliceP] at h
    split at h
    · rename_i y
      split at h
      · rename_i hc
        cases h
        cases hl
        obtain ⟨t, rfl⟩ := hu
        obtain ⟨T, vs, rfl, hl, pa⟩ := ha
        obtain ⟨k, rfl⟩ := Int.eq_ofNat_of_zero_le hc.1
        refine tail_any (Heap.IsList.typeIs (hl.push _)) slot_list_getitem.lookup (wpAny_getItem_list_slice (hl.push _) (Heap.IsSliceOf.new ..) .none (.int _ t) .none (by simp) ?_ (by rw [sizeLine_is]; simp [pa.length]; omega)) (hs _ _)
        rw [slicePick_upto' (List.toArray vs) k]
        exact hQ _ _ ⟨_, _, rfl, isList_new _ _, by simpa using paired_take pa k⟩ (keeps_trans (push_keeps s _) (push_keeps _ _))
      · first | exact no_some h | cases h
    · rename_i x
      split at h
      · rename_i hc
        cases h
        obtain ⟨t, rfl⟩ := hl
        cases hu
        obtain ⟨T, vs, rfl, hl, pa⟩ := ha
        obtain ⟨k, rfl⟩ := Int.eq_ofNat_of_zero_le hc.1
        refine tail_any (Heap.IsList.typeIs (hl.push _)) slot_list_getitem.lookup (wpAny_getItem_list_slice (hl.push _) (Heap.IsSliceOf.new ..) (.int _ t) .none .none (by simp) ?_ (by rw [sizeLine_is]; simp [pa.length]; omega)) (hs _ _)
        rw [slicePick_from' (List.toArray vs) k]
        exact hQ _ _ ⟨_, _, rfl, isList_new _ _, by simpa using paired_drop pa k⟩ (keeps_trans (push_keeps s _) (push_keeps _ _))
      · first | exact no_some h | cases h
    · first | exact no_some h | cases h
  | atom at1 =>
    cases at1 with
    | str x =>
      simp only [sliceP] at h
      split at h
      · rename_i ol oh e1 e2
        split at h
        · rename_i hz
          cases h
          obtain ⟨t, rfl⟩ := ha
          obtain ⟨l1, rfl, rfl⟩ := part_tok hl e1
          obtain ⟨u1, rfl, rfl⟩ := part_tok hu e2
          refine tail_any (typeIs_str _ _ _) slot_str_getitem.lookup (wpAny_getItem_str_slice (l := l1) (u := u1) (st := none) ⟨_, Heap.get?_push_size _ rfl, rfl, rfl⟩ rfl
            (post_val_or_str ⟨Nat.le_trans (Txt.slice_le x _ _) (by rw [sizeLine_is]; omega), fun t' k => hQ _ _ ⟨_, rfl⟩ (keeps_trans (push_keeps s _) (tok_keeps _ _))⟩)) (hs _ _)
        · first | exact no_some h | cases h
      · first | exact no_some h | cases h
    | _ => first | exact no_some h | cases h
  | _ => first | exact no_some h | cases h

end
end Mine

end

section -- Frame1
open PySem PySem.W PyProof.Rows
namespace Mine

theorem cells_some {x : Str} : ∀ (names : List (Str × NameKind)) (k : Nat) (acc : List (Str × Addr)), (acc.lookup x).isSome = true → ((cellsFrom k names acc).lookup x).isSome = true
  | [], _, _, h => h
  | (n, kd) :: r, k, acc, h => by
    unfold cellsFrom
    split
    · refine cells_some r (k + 1) ((n, k) :: acc) ?_
      rw [List.lookup_cons]
      cases hb : x == n with
      | true => rfl
      | false => exact h
    · exact cells_some r k acc h

theorem cells_lookup {x : Str} : ∀ (names : List (Str × NameKind)) (k : Nat) (acc : List (Str × Addr)), names.lookup x = some .cell → ∃ c, (cellsFrom k names acc).lookup x = some c
  | (n, kd) :: r, k, acc, h => by
    unfold cellsFrom
    rw [List.lookup_cons] at h
    cases hb : x == n with
    | true =>
      rw [hb] at h
      cases h
      have := cells_some (x := x) r (k + 1) ((n, k) :: acc) (by rw [List.lookup_cons, hb]; rfl)
      exact Option.isSome_iff_exists.mp (by simpa using this)
    | false =>
      rw [hb] at h
      split
      · exact cells_lookup r (k + 1) _ h
      · exact cells_lookup r k acc h

noncomputable def clOf (cells : List (Str × Addr)) : List (Str × NameKind) → List (Str × Addr) → List (Str × Addr)
  | [], acc => acc
  | (n, k) :: r, acc => if k == .free then clOf cells r ((n, (cells.lookup n).getD 0) :: acc) else clOf cells r acc

theorem clOf_keep {cells : List (Str × Addr)} {x : Str} {c : Addr} (hc : cells.lookup x = some c) : ∀ (names : List (Str × NameKind)) (acc : List (Str × Addr)), acc.lookup x = some c → (clOf cells names acc).lookup x = some c
  | [], _, h => h
  | (n, k) :: r, acc, h => by
    unfold clOf
    split
    · refine clOf_keep hc r _ ?_
      rw [List.lookup_cons]
      cases hb : x == n with
      | true => rw [← beq_iff_eq.mp hb, hc]; rfl
      | false => exact h
    · exact clOf_keep hc r acc h

theorem clOf_lookup {cells : List (Str × Addr)} {x : Str} {c : Addr} (hc : cells.lookup x = some c) : ∀ (names : List (Str × NameKind)) (acc : List (Str × Addr)), names.lookup x = some .free → (clOf cells names acc).lookup x = some c
  | (n, k) :: r, acc, h => by
    unfold clOf
    rw [List.lookup_cons] at h
    cases hb : x == n with
    | true =>
      rw [hb] at h
      cases h
      simp only [beq_self_eq_true, if_true]
      refine clOf_keep hc r _ ?_
      rw [List.lookup_cons, hb, ← beq_iff_eq.mp hb, hc]
      rfl
    | false =>
      rw [hb] at h
      split
      · exact clOf_lookup hc r _ h
      · exact clOf_lookup hc r acc h

theorem closure_names {env : Env} (f : Str × NameKind → List (Str × Addr) → Sem (ForInStep (List (Str × Addr))))
    (hf : ∀ n k cs, f (n, k) cs = if k == NameKind.free then (cellOf env n >>= fun c => pure (.yield ((n, c) :: cs))) else pure (.yield cs)) :
    ∀ (names : List (Str × NameKind)) (acc : List (Str × Addr)), (∀ y ∈ names, y.2 = .free → ∃ c, env.cells.lookup y.1 = some c) → (forIn names acc f : Sem (List (Str × Addr))) = pure (clOf env.cells names acc)
  | [], acc, _ => by rw [List.forIn_nil]; rfl
  | (n, k) :: r, acc, h => by
    rw [List.forIn_cons, hf]
    unfold clOf
    split
    · rename_i hk
      obtain ⟨c, hc⟩ := h (n, k) (List.mem_cons_self) (beq_iff_eq.mp hk)
      have e : cellOf env n = pure c := by
        unfold cellOf
        rw [hc]
      rw [e, pure_bind, pure_bind, hc]
      exact closure_names f hf r _ (fun y hy => h y (List.mem_cons_of_mem _ hy))
    · rw [pure_bind]
      exact closure_names f hf r _ (fun y hy => h y (List.mem_cons_of_mem _ hy))

theorem closure_is {env : Env} {scope : Scope} (h : ∀ y ∈ scope.names, y.2 = .free → ∃ c, env.cells.lookup y.1 = some c) : closureFor scope env = pure (clOf env.cells scope.names []) := by
  unfold closureFor
  dsimp only
  rw [closure_names (env := env) _ (fun n k cs => ?_) scope.names [] h]
  · rfl
  · dsimp only

structure FD where
  name : Str
  sc : Scope
  L : Addr
  a : Addr
  cd : Value
noncomputable def FD.env (d : FD) : Env := envOfC d.name d.sc d.L d.a d.cd
noncomputable def FD.cells (d : FD) : List (Str × Addr) := cellsFrom (d.L + 1) d.sc.names []

abbrev Vars := Str → Option PV

/-- the names of the text's top and of the built-ins, as far as they are used -/
structure Gl (h : Heap) (γ : Vars) : Prop where
  is : ∃ mg mb, h.Ns mainGlobals mg ∧ h.Ns builtinsNs mb ∧ ∀ x p, γ x = some p → ∃ v, (mg x = some v ∨ (mg x = none ∧ mb x = some v)) ∧ ∀ h', Is h' v p
theorem Gl.keep {h h' : Heap} {γ : Vars} (g : Gl h γ) (k : Ext h h') : Gl h' γ := by
  obtain ⟨mg, mb, h1, h2, h3⟩ := g.is
  exact ⟨mg, mb, h1.at' fun o e => k _ o e, h2.at' fun o e => k _ o e, h3⟩

structure FrameOk (d : FD) (h₀ h : Heap) (ρ : Vars) : Prop where
  is : ∃ m cm, Fr h₀ d.L h m ∧ Cl d.L d.cells h cm ∧ ∀ x p, ρ x = some p → p.stor = true ∧
    ((d.sc.names.lookup x = some .local ∧ ∃ v, m x = some v ∧ Is h v p) ∨ (d.sc.names.lookup x = some .cell ∧ ∃ v, cm x = some v ∧ Is h v p))

/-- what a def's block sees -/
noncomputable def vis (sc : Scope) (γ ρ : Vars) : Vars := fun x => match ρ x with
  | some p => some p
  | none => if sc.names.lookup x = some .globalImplicit then γ x else none

noncomputable def Sees (prog : Program) (w : World) (env : Env) (h : Heap) (ρ : Vars) : Prop :=
  ∀ x p, ρ x = some p → ∃ v, Is h v p ∧ ∀ (A : Around) (s : Shared) (Q : Value → Shared → Prop) (E : Value → Shared → Prop), Ext h s.heap → Q v s → wpAny (model prog w) A (loadName env x) Q E s

theorem Sees.keep {prog : Program} {w : World} {env : Env} {h h' : Heap} {ρ : Vars} (g : Sees prog w env h ρ) (k : Ext h h') : Sees prog w env h' ρ := fun x p e => by
  obtain ⟨v, h1, h2⟩ := g x p e
  exact ⟨v, h1.keep k, fun A s Q E hk hq => h2 A s Q E (k.trans hk) hq⟩

section
variable {prog : Program} {w : World} {A : Around} {n : Nat} {s : Shared}

theorem load_global {env : Env} {x : Str} {v : Value} {mg mb : Str → Option Value} {Q : Value → Shared → Prop} {E : Value → Shared → Prop} (hk : env.scope.kind = .function) (hx : env.kindOf x = some .globalImplicit)
    (hg : s.heap.Ns env.globals mg) (hb : s.heap.Ns env.builtins mb) (hv : mg x = some v ∨ (mg x = none ∧ mb x = some v)) (h : Q v s) : wpAny (model prog w) A (loadName env x) Q E s := by
  unfold loadName
  simp only [Env.blockKind, hk, hx, ScopeKind.isAnnotationScope, Bool.false_and, Bool.false_eq_true, if_false]
  rcases hv with hv | ⟨h1, h2⟩
  · exact Calls.loadGlobal_global hg hv h
  · exact Calls.loadGlobal_builtin hg h1 hb h2 h

theorem sees_frame {d : FD} {h₀ h : Heap} {γ ρ : Vars} (hk : d.sc.kind = .function) (F : FrameOk d h₀ h ρ) (G : Gl h₀ γ) : Sees prog w d.env h (vis d.sc γ ρ) := by
  obtain ⟨m, cm, fr, cl, hv⟩ := F.is
  intro x p e
  unfold vis at e
  split at e
  · rename_i q hq
    cases e
    obtain ⟨_, ⟨h1, v, h2, h3⟩ | ⟨h1, v, h2, h3⟩⟩ := hv x p hq
    · refine ⟨v, h3, fun A s Q E hk' hQ => ?_⟩
      exact wpAny_loadName_local hk h1 (fr.ns.at' fun o e => hk' _ o e) h2 hQ
    · refine ⟨v, h3, fun A s Q E hk' hQ => ?_⟩
      obtain ⟨c, hc⟩ := cells_lookup d.sc.names (d.L + 1) [] h1
      exact wpAny_loadName_cell hk h1 hc ((h2 ▸ cl.cell x c hc).keeps hk') hQ
  · split at e
    · rename_i hg
      obtain ⟨mg, mb, g1, g2, g3⟩ := (G.keep fr.keep).is
      obtain ⟨v, hv1, hv2⟩ := g3 x p e
      exact ⟨v, hv2 h, fun A s Q E hk' hQ => load_global hk hg (g1.at' fun o e => hk' _ o e) (g2.at' fun o e => hk' _ o e) hv1 hQ⟩
    · first | exact no_some e | cases e

end
end Mine

end

section -- Frame2
open PySem PySem.W PyProof.Rows
namespace Mine

theorem lookup_map {α β : Type} (g : Str → α → β) : ∀ (l : List (Str × α)) (x : Str), (l.map fun y => (y.1, g y.1 y.2)).lookup x = (l.lookup x).map (g x)
  | [], _ => rfl
  | (n, k) :: r, x => by
    rw [List.map_cons, List.lookup_cons, List.lookup_cons]
    cases hb : x == n with
    | true => rw [beq_iff_eq.mp hb]; rfl
    | false => exact lookup_map g r x

theorem relabel_lookup (scope : Scope) (env : Env) (x : Str) : (relabel scope env).names.lookup x = (scope.names.lookup x).map fun k => if (k == .free && env.scope.kind == .function && env.kindOf x == some .cell) = true then NameKind.cell else k := by
  have e : (relabel scope env).names = scope.names.map fun y => (y.1, (fun n k => if (k == NameKind.free && env.scope.kind == .function && env.kindOf n == some .cell) = true then NameKind.cell else k) y.1 y.2) := by
    unfold relabel
    dsimp only
    congr 1
    funext y
    obtain ⟨n, k⟩ := y
    dsimp only
    split <;> rfl
  rw [e]
  exact lookup_map (fun n k => if (k == NameKind.free && env.scope.kind == .function && env.kindOf n == some .cell) = true then NameKind.cell else k) scope.names x

noncomputable def inner (cs : Scope) (γ ρ : Vars) (bs : List (Str × PV)) : Vars := fun x => match bs.lookup x with
  | some q => some q
  | none => match cs.names.lookup x with
    | some .free => ρ x
    | some .globalImplicit => γ x
    | _ => none

/-- a block's names: its own, cells of the def around it, names of the top -/
noncomputable def scopeOk (sc cs : Scope) : Bool :=
  cs.kind == .function && cs.names.all (fun y => match y.2 with
    | .local => cs.names.lookup y.1 == some .local
    | .free => sc.names.lookup y.1 == some .cell
    | .globalImplicit => true
    | _ => false)

theorem scopeOk_kind {sc cs : Scope} (h : scopeOk sc cs = true) : cs.kind = .function := by
  unfold scopeOk at h
  simp only [Bool.and_eq_true] at h
  exact beq_iff_eq.mp h.1
theorem scopeOk_mem {sc cs : Scope} (h : scopeOk sc cs = true) {y : Str × NameKind} (hy : y ∈ cs.names) : (y.2 = .local ∧ cs.names.lookup y.1 = some .local) ∨ (y.2 = .free ∧ sc.names.lookup y.1 = some .cell) ∨ y.2 = .globalImplicit := by
  unfold scopeOk at h
  simp only [Bool.and_eq_true, List.all_eq_true] at h
  have := h.2 y hy
  split at this
  · rename_i e; exact .inl ⟨e, beq_iff_eq.mp this⟩
  · rename_i e; exact .inr (.inl ⟨e, beq_iff_eq.mp this⟩)
  · rename_i e; exact .inr (.inr e)
  · cases this
theorem scopeOk_cell {sc cs : Scope} (h : scopeOk sc cs = true) : ∀ y ∈ cs.names, y.2 ≠ .cell := fun y hy e => by
  rcases scopeOk_mem h hy with q | q | q
  · rw [q.1] at e; cases e
  · rw [q.1] at e; cases e
  · rw [q] at e; cases e
theorem scopeOk_local {sc cs : Scope} (h : scopeOk sc cs = true) : ∀ y ∈ cs.names, y.2 = .local → cs.names.lookup y.1 = some .local := fun y hy e => by
  rcases scopeOk_mem h hy with q | q | q
  · exact q.2
  · rw [q.1] at e; cases e
  · rw [q] at e; cases e

theorem scopeOk_closure {d : FD} {cs : Scope} (h : scopeOk d.sc cs = true) : closureFor cs d.env = pure (clOf d.cells cs.names []) := by
  refine closure_is fun y hy e => ?_
  rcases scopeOk_mem h hy with q | q | q
  · rw [q.1] at e; cases e
  · exact cells_lookup d.sc.names (d.L + 1) [] q.2
  · rw [q] at e; cases e

section
variable {prog : Program} {w : World} {A : Around} {n : Nat} {s : Shared}

theorem mem_lookup {x : Str} {k : NameKind} : ∀ {l : List (Str × NameKind)}, l.lookup x = some k → (x, k) ∈ l
  | (n, v) :: r, h => by
    rw [List.lookup_cons] at h
    cases hb : x == n with
    | true => rw [hb] at h; cases h; rw [beq_iff_eq.mp hb]; exact List.mem_cons_self
    | false => rw [hb] at h; exact List.mem_cons_of_mem _ (mem_lookup h)

theorem sees_inner {d : FD} {cs : Scope} {h₀ h h' : Heap} {γ ρ : Vars} {C : Addr} {m' : Str → Option Value} {bs : List (Str × PV)} (hk : d.sc.kind = .function) (hok : scopeOk d.sc cs = true) (F : FrameOk d h₀ h ρ) (G : Gl h₀ γ) (hx : Ext h h') (hn : h'.Ns C m')
    (hb : ∀ x q, bs.lookup x = some q → cs.names.lookup x = some .local ∧ ∃ v, m' x = some v ∧ Is h' v q) : Sees prog w (compEnvC cs (clOf d.cells cs.names []) C d.env) h' (inner cs γ ρ bs) := by
  obtain ⟨m, cm, fr, cl, hv⟩ := F.is
  have hkc : (compEnvC cs (clOf d.cells cs.names []) C d.env).scope.kind = .function := by
    show cs.kind = .function
    exact scopeOk_kind hok
  intro x p e
  unfold inner at e
  split at e
  · rename_i q hq
    cases e
    obtain ⟨h1, v, h2, h3⟩ := hb x p hq
    refine ⟨v, h3, fun A s Q E hk' hQ => ?_⟩
    refine wpAny_loadName_local hkc ?_ (hn.at' fun o e => hk' _ o e) h2 hQ
    show (relabel cs d.env).names.lookup x = some .local
    rw [relabel_lookup, h1]
    rfl
  · split at e
    · rename_i hf
      have hc : d.sc.names.lookup x = some .cell := by
        rcases scopeOk_mem hok (mem_lookup hf) with q | q | q
        · cases q.1
        · exact q.2
        · first | exact no_some q | cases q
      obtain ⟨_, ⟨h1, v, h2, h3⟩ | ⟨h1, v, h2, h3⟩⟩ := hv x p e
      · rw [hc] at h1; cases h1
      · refine ⟨v, h3.keep hx, fun A s Q E hk' hQ => ?_⟩
        obtain ⟨c, hcc⟩ := cells_lookup d.sc.names (d.L + 1) [] h1
        refine wpAny_loadName_cell (c := c) hkc ?_ (clOf_lookup (cells := d.cells) hcc cs.names [] hf) ((h2 ▸ cl.cell x c hcc).keeps (hx.trans hk')) hQ
        show (relabel cs d.env).names.lookup x = some .cell
        rw [relabel_lookup, hf]
        show some (if (NameKind.free == NameKind.free && d.sc.kind == .function && d.sc.names.lookup x == some .cell) = true then NameKind.cell else .free) = _
        rw [hk, hc]
        rfl
    · rename_i hg
      obtain ⟨mg, mb, g1, g2, g3⟩ := (G.keep (Ext.trans fr.keep hx)).is
      obtain ⟨v, hv1, hv2⟩ := g3 x p e
      refine ⟨v, hv2 h', fun A s Q E hk' hQ => load_global hkc ?_ (g1.at' fun o e => hk' _ o e) (g2.at' fun o e => hk' _ o e) hv1 hQ⟩
      show (relabel cs d.env).names.lookup x = some .globalImplicit
      rw [relabel_lookup, hg]
      rfl
    · first | exact no_some e | cases e

end
end Mine

end

section -- Eval1
open PySem PySem.W PyProof.Rows
namespace Mine

noncomputable def noStar : Expr → Bool
  | .Starred .. => false
  | _ => true
noncomputable def notCall : Expr → Bool
  | .Call (.Name ..) .. => false
  | _ => true
noncomputable def plainTest : Expr → Bool
  | .UnaryOp .. => false
  | .BoolOp .. => false
  | .IfExp .. => false
  | .Compare .. => false
  | _ => true

structure Lang where
  app : Value → List PV → List (Str × PV) → Option PV
  meth : Str → PV → List PV → Option PV
  γ : Vars

noncomputable def evL (f : Expr → Option PV) : List Expr → Option (List PV)
  | [] => some []
  | e :: r => if noStar e then match f e, evL f r with
    | some p, some ps => some (p :: ps)
    | _, _ => none
    else none

noncomputable def evK (f : Expr → Option PV) : List Keyword → Option (List (Str × PV))
  | [] => some []
  | ⟨some x, e, _⟩ :: r => match f e, evK f r with
    | some p, some ps => some ((x, p) :: ps)
    | _, _ => none
  | _ => none

noncomputable def atomsP : List PV → Option (List AV)
  | [] => some []
  | .atom a :: r => (atomsP r).map (a :: ·)
  | _ => none
noncomputable def tupsP : List PV → Option (List (List AV))
  | [] => some []
  | .tup a :: r => (tupsP r).map (a :: ·)
  | _ => none

noncomputable def constP : Const → Option AV
  | .none => some .none
  | .bool b => some (.bool b)
  | .int i => some (.int i)
  | .str s => some (.str s)
  | .bytes b => some (.bytes b.toArray)
  | _ => none

noncomputable def nameP : Expr → Option Str
  | .Name x _ => some x
  | _ => none
noncomputable def pairP : Expr → Option (Expr × Expr)
  | .Tuple [e, e'] _ _ => some (e, e')
  | _ => none
noncomputable def tup2 : PV → Option (AV × AV)
  | .tup [a, b] => some (a, b)
  | _ => none
noncomputable def bindP (target : Expr) (p : PV) : Option (List (Str × PV)) := match nameP target with
  | some x => some [(x, p)]
  | none => match pairP target with
    | some q => match tup2 p with
      | some r => match nameP q.1 with
        | some x => match nameP q.2 with
          | some y => if x = y then none else some [(x, .atom r.1), (y, .atom r.2)]
          | none => none
        | none => none
      | none => none
    | none => none

noncomputable def itemsP : PV → Option (List PV)
  | .list l => if l.length ≤ 1000000 then some (l.map .atom) else none
  | .tups l => if l.length ≤ 1000000 then some (l.map .tup) else none
  | .range n => if n ≤ 1000000 then some ((List.range n).map fun (i : Nat) => PV.atom (.int (i : Int))) else none
  | .atom (.str x) => if x.length ≤ 1000000 then some (chars x) else none
  | .atom (.bytes b) => if b.size ≤ 1000000 then some (octs b) else none
  | _ => none

noncomputable def compP (f : PV → Option (Option PV)) : List PV → Option (List PV)
  | [] => some []
  | p :: r => match f p, compP f r with
    | some (some q), some qs => some (q :: qs)
    | some none, some qs => some qs
    | _, _ => none

noncomputable def isTuple : Expr → Bool
  | .Tuple .. => true
  | _ => false

noncomputable def packP (t : Bool) (out : List PV) : Option PV := if t then (tupsP out).map .tups else (atomsP out).map .list

noncomputable def listP (ps : List PV) : Option PV := if ps.length ≤ 1000000 then match ps with
  | .tup a :: r => (tupsP (.tup a :: r)).map .tups
  | ps => (atomsP ps).map .list
  else none

noncomputable def allT (f : Expr → Option Bool) (op : BoolOp) : List Expr → Option Bool
  | [] => some (op == .And)
  | e :: r => match f e with
    | some b => match op, b with
      | .And, false => some false
      | .Or, true => some true
      | _, _ => allT f op r
    | none => none

noncomputable def atomOnly : Option PV → Option PV
  | some (.atom a) => some (.atom a)
  | _ => none

noncomputable def boundNames (cs : Scope) (bs : List (Str × PV)) : Bool := bs.all fun b => cs.names.lookup b.1 == some .local

noncomputable def eltV (ev : Expr → Option PV) (elt : Expr) : Option PV := match elt with
  | .Tuple es _ _ => match evL ev es with
    | some ps => if ps.length ≤ 1000000 then (atomsP ps).map .tup else none
    | none => none
  | elt => atomOnly (ev elt)
noncomputable def ifsV (ts : Expr → Option Bool) : List Expr → Option Bool
  | [] => some true
  | [t] => ts t
  | _ => none
noncomputable def eltF (ev : Vars → Expr → Option PV) (ts : Vars → Expr → Option Bool) (cs : Scope) (γ ρ : Vars) (target elt : Expr) (ifs : List Expr) (it : PV) : Option (Option PV) :=
  match bindP target it with
  | some bs => if boundNames cs bs then
      match ifsV (ts (inner cs γ ρ bs)) ifs with
      | some true => (eltV (ev (inner cs γ ρ bs)) elt).map some
      | some false => some none
      | none => none
    else none
  | none => none

mutual
noncomputable def evP (g : Lang) : Nat → Option Scope → Vars → Expr → Option PV
  | 0, _, _, _ => none
  | n + 1, sc, ρ, e => match e with
    | .Constant c _ _ => (constP c).map .atom
    | .Name x _ => if x == (Str.ofString "__debug__") then none else ρ x
    | .BinOp l op r _ => match evP g n sc ρ l, evP g n sc ρ r with
      | some a, some b => binP op a b
      | _, _ => none
    | .UnaryOp .Not x _ => match evP g n sc ρ x with
      | some a => (truthP a).map fun b => .atom (.bool !b)
      | none => none
    | .BoolOp .Or [a, b] _ => match evP g n sc ρ a with
      | some v => match truthP v with
        | some true => some v
        | some false => evP g n sc ρ b
        | none => none
      | none => none
    | .Compare l [op] [r] _ => if behindInMarks op r then none else match evP g n sc ρ l, evP g n sc ρ r with
      | some a, some b => (cmpP op a b).map fun c => .atom (.bool c)
      | _, _ => none
    | .IfExp t b o _ => match tsP g n sc ρ t with
      | some true => evP g n sc ρ b
      | some false => evP g n sc ρ o
      | none => none
    | .List es _ => match evL (evP g n sc ρ) es with
      | some ps => listP ps
      | none => none
    | .Tuple es _ _ => match evL (evP g n sc ρ) es with
      | some ps => if ps.length ≤ 1000000 then (atomsP ps).map .tup else none
      | none => none
    | .Subscript v i _ => match i with
      | .Slice lo hi none _ => match evP g n sc ρ v, (match lo with | none => some (PV.atom .none) | some e => evP g n sc ρ e), (match hi with | none => some (PV.atom .none) | some e => evP g n sc ρ e) with
        | some p, some (.atom a), some (.atom b) => sliceP p a b
        | _, _, _ => none
      | i => if notSlice i then match evP g n sc ρ v, evP g n sc ρ i with
        | some a, some b => itemP a b
        | _, _ => none
        else none
    | .Call f args kws pos => match f with
      | .Attribute o m ap => if kws.isEmpty && (ap.endLine == pos.line) && decide (args.length < 20) && notCall o then match evP g n sc ρ o, evL (evP g n sc ρ) args with
        | some a, some ps => g.meth m a ps
        | _, _ => none
        else none
      | .Name x p => match evP g n sc ρ (.Name x p), evL (evP g n sc ρ) args, evK (evP g n sc ρ) kws with
        | some (.fn v), some ps, some ks => if args.isEmpty || decide (args.length + 2 * kws.length > 30) then none else g.app v ps ks
        | _, _, _ => none
      | _ => none
    | .ListComp elt [⟨target, iter, ifs, 0⟩] cs _ => match sc with
      | some osc => if scopeOk osc cs then match evP g n sc ρ iter with
        | some src => match itemsP src with
          | some items => match compP (eltF (evP g n none) (tsP g n none) cs g.γ ρ target elt ifs) items with
            | some out => packP (isTuple elt) out
            | none => none
          | none => none
        | none => none
        else none
      | none => none
    | _ => none
noncomputable def tsP (g : Lang) : Nat → Option Scope → Vars → Expr → Option Bool
  | 0, _, _, _ => none
  | n + 1, sc, ρ, e => match e with
    | .UnaryOp .Not x _ => (tsP g n sc ρ x).map (!·)
    | .BoolOp op vs _ => allT (tsP g n sc ρ) op vs
    | .Compare l [op] [r] _ => if behindInMarks op r then none else match evP g n sc ρ l, evP g n sc ρ r with
      | some a, some b => cmpP op a b
      | _, _ => none
    | e => if plainTest e then match evP g n sc ρ e with
      | some a => truthP a
      | none => none
      else none
end
end Mine

end

section -- Eval2
open PySem PySem.W PyProof.Rows
namespace Mine

theorem extS_but {h h' : Heap} {C : Addr} {m : Str → Option Value} (hn : h.Ns C m) (hs : Heap.SameBut C h h') : ExtS h h' := fun b o xs n e hd => by
  by_cases hb : b = C
  · subst hb
    obtain ⟨o', es, ep, ho, hd', _⟩ := hn
    rw [e] at ho
    cases ho
    rw [hd] at hd'
    cases hd'
  · exact hs.extBut b o hb e

section
variable {prog : Program} {w : World} {A : Around} {k : Nat} {s : Shared}

theorem comp_kind {cs : Scope} {cl : List (Str × Addr)} {C : Addr} {env : Env} {x : Str} (h : cs.names.lookup x = some .local) : (compEnvC cs cl C env).kindOf x = some .local := by
  show (relabel cs env).names.lookup x = some .local
  rw [relabel_lookup, h]
  rfl

theorem store_comp {cs : Scope} {cl : List (Str × Addr)} {C : Addr} {env : Env} {x : Str} {pos : Pos} {v : Value} {m : Str → Option Value} {Q : Unit → Shared → Prop} {E : Value → Shared → Prop} (hk : cs.kind = .function) (h : cs.names.lookup x = some .local) (hn : s.heap.Ns C m)
    (hQ : ∀ h', h'.Ns C (fun z => if z = x then some v else m z) → Heap.SameBut C s.heap h' → Q () { s with heap := h', toks := s.toks + 1 }) : wpAny (model prog w) A (PySem.assign (.Name x pos) (compEnvC cs cl C env) v) Q E s :=
  wpAny_assign_Name (wpAny_storeName_local (comp_kind h) hn hQ (by
    show (cs.kind == .class || (cs.kind == .module && _)) = false
    rw [hk]; rfl))

theorem nameP_some {e : Expr} {x : Str} (h : nameP e = some x) : ∃ px, e = .Name x px := by
  cases e <;> first | exact no_some h | (cases h; exact ⟨_, rfl⟩)
theorem pairP_some {e : Expr} {q : Expr × Expr} (h : pairP e = some q) : ∃ k pos, e = .Tuple [q.1, q.2] k pos := by
  cases e with
  | Tuple es k pos =>
    cases es with
    | nil => first | exact no_some h | cases h
    | cons a es =>
      cases es with
      | nil => first | exact no_some h | cases h
      | cons b es =>
        cases es with
        | nil => cases h; exact ⟨_, _, rfl⟩
        | cons _ _ => first | exact no_some h | cases h
  | _ => first | exact no_some h | cases h
theorem tup2_some {p : PV} {r : AV × AV} (h : tup2 p = some r) : p = .tup [r.1, r.2] := by
  cases p with
  | tup l =>
    cases l with
    | nil => first | exact no_some h | cases h
    | cons a l =>
      cases l with
      | nil => first | exact no_some h | cases h
      | cons b l =>
        cases l with
        | nil => cases h; rfl
        | cons _ _ => first | exact no_some h | cases h
  | _ => first | exact no_some h | cases h
theorem bindP_some {target : Expr} {p : PV} {bs : List (Str × PV)} (h : bindP target p = some bs) : (∃ x px, target = .Name x px ∧ bs = [(x, p)]) ∨ ∃ x px y py k pos a b, target = .Tuple [.Name x px, .Name y py] k pos ∧ p = .tup [a, b] ∧ x ≠ y ∧ bs = [(x, .atom a), (y, .atom b)] := by
  unfold bindP at h
  split at h
  · rename_i x hx
    obtain ⟨px, rfl⟩ := nameP_some hx
    cases h
    exact .inl ⟨x, px, rfl, rfl⟩
  split at h
  · rename_i q hq
    split at h
    · rename_i r hr
      split at h
      · rename_i x hx
        split at h
        · rename_i y hy
          split at h
          · first | exact no_some h | cases h
          · rename_i hxy
            cases h
            obtain ⟨px, hpx⟩ := nameP_some hx
            obtain ⟨py, hpy⟩ := nameP_some hy
            obtain ⟨k, pos, e⟩ := pairP_some hq
            rw [hpx, hpy] at e
            exact .inr ⟨x, px, y, py, k, pos, r.1, r.2, e, tup2_some hr, hxy, rfl⟩
        · first | exact no_some h | cases h
      · first | exact no_some h | cases h
    · first | exact no_some h | cases h
  · first | exact no_some h | cases h

theorem bind_ok {cs : Scope} {cl : List (Str × Addr)} {C : Addr} {env : Env} {target : Expr} {p : PV} {bs : List (Str × PV)} {v : Value} {m : Str → Option Value} {Q : Unit → Shared → Prop} {E : Value → Shared → Prop} (ok : Ok k A) (hb : bindP target p = some bs) (hbn : boundNames cs bs = true) (hk : cs.kind = .function)
    (hst : p.stor = true) (hv : Is s.heap v p) (ns : s.heap.Ns C m)
    (hQ : ∀ h' tk m', h'.Ns C m' → (∀ x q, bs.lookup x = some q → ∃ v, m' x = some v ∧ Is h' v q) → (∀ b o, b ≠ C → s.heap.get? b = some o → h'.get? b = some o) → Q () { s with heap := h', toks := tk }) :
    wpAny (model prog w) A (PySem.assign target (compEnvC cs cl C env) v) Q E s := by
  unfold boundNames at hbn
  rw [List.all_eq_true] at hbn
  rcases bindP_some hb with ⟨x, px, rfl, rfl⟩ | ⟨x, px, y, py, kk, pp, a, b, rfl, rfl, hxy, rfl⟩
  · have h1 := beq_iff_eq.mp (hbn (x, p) List.mem_cons_self)
    refine store_comp hk h1 ns fun h' hn' hs' => hQ h' _ _ hn' ?_ fun b o hb e => hs'.extBut b o hb e
    intro z q e
    rw [List.lookup_cons] at e
    cases hz : z == x with
    | true =>
      rw [hz] at e
      cases e
      refine ⟨v, by simp [beq_iff_eq.mp hz], hv.keepS (extS_but ns hs') hst⟩
    | false => rw [hz] at e; cases e
  · have h1 := beq_iff_eq.mp (hbn (x, .atom a) List.mem_cons_self)
    have h2 := beq_iff_eq.mp (hbn (y, .atom b) (List.mem_cons_of_mem _ List.mem_cons_self))
    obtain ⟨T, vs, rfl, ht, hp⟩ := hv
    cases hp with
    | cons ha hp =>
      rename_i va vs
      cases hp with
      | cons hb' hp =>
        rename_i vb vs
        cases hp with
        | nil =>
          refine wpAny_assign_Tuple ok.hh ht rfl rfl fun h' he => ?_
          have ext : Ext s.heap h' := fun b o e => he b o (Nat.ne_of_lt (Heap.lt_size e)) e
          show wpAny _ _ (assignInOrder [PySem.assign (.Name x px) (compEnvC cs cl C env), PySem.assign (.Name y py) (compEnvC cs cl C env)] [va, vb]) _ _ _
          unfold assignInOrder
          refine wpAny_bind (wpAny_holding (store_comp hk h1 (ns.at' fun o e => ext _ o e) fun h₂ hn₂ hs₂ => ?_))
          unfold assignInOrder
          refine wpAny_bind (wpAny_holding (store_comp hk h2 hn₂ fun h₃ hn₃ hs₃ => ?_))
          unfold assignInOrder
          refine wpAny_pure (hQ h₃ _ _ hn₃ ?_ fun b o hb e => hs₃.extBut b o hb (hs₂.extBut b o hb (ext b o e)))
          intro z q e
          rw [List.lookup_cons] at e
          cases hz : z == x with
          | true =>
            rw [hz] at e
            cases e
            have hzx := beq_iff_eq.mp hz
            subst hzx
            refine ⟨va, ?_, ha⟩
            simp [hxy]
          | false =>
            rw [hz] at e
            rw [List.lookup_cons] at e
            cases hz' : z == y with
            | true =>
              rw [hz'] at e
              cases e
              refine ⟨vb, by simp [beq_iff_eq.mp hz'], hb'⟩
            | false => rw [hz'] at e; cases e

end
end Mine

end

section -- Eval3
open PySem PySem.W PyProof.Rows
namespace Mine

theorem FrameOk.keep {d : FD} {h₀ h h' : Heap} {ρ : Vars} (F : FrameOk d h₀ h ρ) (k : Ext h h') : FrameOk d h₀ h' ρ := by
  obtain ⟨m, cm, fr, cl, hv⟩ := F.is
  refine ⟨m, cm, fr.keeps k, cl.keeps k, fun x p e => ?_⟩
  obtain ⟨h1, ⟨h2, v, h3, h4⟩ | ⟨h2, v, h3, h4⟩⟩ := hv x p e
  · exact ⟨h1, .inl ⟨h2, v, h3, h4.keep k⟩⟩
  · exact ⟨h1, .inr ⟨h2, v, h3, h4.keep k⟩⟩

structure Inv (prog : Program) (w : World) (g : Lang) (h₁ : Heap) (sc : Option Scope) (ρ : Vars) (env : Env) (h : Heap) : Prop where
  base : Ext h₁ h
  sees : Sees prog w env h ρ
  host : ∀ osc, sc = some osc → ∃ d h₀ ρL, env = FD.env d ∧ osc = d.sc ∧ d.sc.kind = .function ∧ FrameOk d h₀ h ρL ∧ Gl h₀ g.γ ∧ ρ = vis d.sc g.γ ρL

theorem Inv.keep {prog : Program} {w : World} {g : Lang} {h₁ : Heap} {sc : Option Scope} {ρ : Vars} {env : Env} {h h' : Heap} (i : Inv prog w g h₁ sc ρ env h) (k : Ext h h') : Inv prog w g h₁ sc ρ env h' :=
  ⟨i.base.trans k, i.sees.keep k, fun osc e => by
    obtain ⟨d, h₀, ρL, a, b, c, F, G, r⟩ := i.host osc e
    exact ⟨d, h₀, ρL, a, b, c, F.keep k, G, r⟩⟩

noncomputable def Fn (h₁ : Heap) (v : Value) : Prop := (∃ id, v = .builtin id) ∨ (∃ T, v = .type T) ∨ (∃ a o fd, v = .ref a ∧ h₁.get? a = some o ∧ o.data = .func fd)
noncomputable def KIs (h : Heap) (x : Str × Value) (y : Str × PV) : Prop := x.1 = y.1 ∧ Is h x.2 y.2

noncomputable def AppOk (prog : Program) (w : World) (g : Lang) (h₁ : Heap) (k : Nat) : Prop :=
  ∀ v ps ks r, g.app v ps ks = some r → Fn h₁ v ∧ (∀ T, v = .type T → ks = []) ∧
    ∀ A s vs kvs, Ok k A → Ext h₁ s.heap → Paired (Is s.heap) vs ps → Paired (KIs s.heap) kvs ks → Gives prog w A (call v vs kvs) r s
noncomputable def MethOk (prog : Program) (w : World) (g : Lang) (h₁ : Heap) (k : Nat) : Prop :=
  ∀ m p ps r, g.meth m p ps = some r → ∃ T id, PlainAttrs T ∧ Slot T m id ∧ typeOf (.builtin id) = pure (.type "method_descriptor") ∧
    ∀ (s : Shared) ov, Ext h₁ s.heap → Is s.heap ov p → s.TypeIs ov T ∧ (∀ a, ov = .ref a → ∃ ob, s.heap.get? a = some ob ∧ ob.dict = none) ∧
      ∀ A vs, Ok k A → Paired (Is s.heap) vs ps → Gives prog w A (call (.builtin id) (ov :: vs)) r s

section
variable {prog : Program} {w : World} {A : Around} {k : Nat} {s : Shared}

theorem star_one {e : Expr} {r : List Expr} {env : Env} (h : noStar e = true) : starEach (e :: r) env = (false, eval e env) :: starEach r env := by
  cases e <;> first | rfl | cases h

theorem paired_keep {vs : List Value} {ps : List PV} {h h' : Heap} (p : Paired (Is h) vs ps) (k : Ext h h') : Paired (Is h') vs ps := p.mono fun _ _ q => q.keep k

theorem evL_ok {f : Expr → Option PV} {env : Env} {pos : Pos} {I : Heap → Prop} (hI : ∀ h h', I h → Ext h h' → I h') (H : ∀ e p, f e = some p → ∀ s : Shared, I s.heap → Gives prog w A (eval e env) p s) :
    ∀ (es : List Expr) (ps : List PV), evL f es = some ps → ∀ s : Shared, I s.heap → ∀ (Q : List Value → Shared → Prop) (E : Value → Shared → Prop), (∀ vs s', Paired (Is s'.heap) vs ps → Keeps s s' → Q vs s') →
      wpAny (model prog w) A (spliced (backTo pos (starEach es env))) Q E s
  | [], ps, h, s, _, Q, E, hQ => by
    cases h
    exact Calls.spliced_nil (hQ [] s .nil (keeps_refl _))
  | e :: r, ps, h, s, hs, Q, E, hQ => by
    unfold evL at h
    split at h
    · rename_i hn
      split at h
      · rename_i p ps' h1 h2
        cases h
        rw [star_one hn]
        refine Calls.spliced_cons ?_
        refine H e p h1 s hs _ _ fun v s₁ hv k₁ => ?_
        refine evL_ok hI H r ps' h2 s₁ (hI _ _ hs (keeps_ext k₁)) _ _ fun vs s₂ hvs k₂ => ?_
        exact hQ _ _ (.cons (hv.keep (keeps_ext k₂)) hvs) (keeps_trans k₁ k₂)
      · first | exact no_some h | cases h
    · first | exact no_some h | cases h

theorem evK_ok {f : Expr → Option PV} {env : Env} {pos : Pos} {I : Heap → Prop} (hI : ∀ h h', I h → Ext h h' → I h') (H : ∀ e p, f e = some p → ∀ s : Shared, I s.heap → Gives prog w A (eval e env) p s) :
    ∀ (ks : List Keyword) (ps : List (Str × PV)), evK f ks = some ps → (backToKw pos (keywordEach ks env)).all (·.1.isSome) = true ∧ (backToKw pos (keywordEach ks env)).any (·.1.isNone) = false ∧
      ∀ s : Shared, I s.heap → ∀ (Q : List Value → Shared → Prop) (E : Value → Shared → Prop), (∀ vs s', Paired (KIs s'.heap) (((backToKw pos (keywordEach ks env)).filterMap (·.1)).zip vs) ps → Keeps s s' → Q vs s') →
      wpAny (model prog w) A (evalAll ((backToKw pos (keywordEach ks env)).map (·.2))) Q E s
  | [], ps, h => by
    cases h
    exact ⟨rfl, rfl, fun s _ Q E hQ => kws_nil (hQ [] s .nil (keeps_refl _))⟩
  | ⟨some x, e, kp⟩ :: r, ps, h => by
    unfold evK at h
    split at h
    · rename_i p ps' h1 h2
      cases h
      obtain ⟨a1, a2, a3⟩ := evK_ok (pos := pos) hI H r ps' h2
      refine ⟨?_, ?_, fun s hs Q E hQ => ?_⟩
      · show (true && (backToKw pos (keywordEach r env)).all (·.1.isSome)) = true
        rw [a1]; rfl
      · show (false || (backToKw pos (keywordEach r env)).any (·.1.isNone)) = false
        rw [a2]; rfl
      · refine kws_cons ?_
        refine H e p h1 s hs _ _ fun v s₁ hv k₁ => ?_
        refine a3 s₁ (hI _ _ hs (keeps_ext k₁)) _ _ fun vs s₂ hvs k₂ => ?_
        exact hQ _ _ (.cons ⟨rfl, hv.keep (keeps_ext k₂)⟩ hvs) (keeps_trans k₁ k₂)
    · first | exact no_some h | cases h
  | ⟨none, e, kp⟩ :: r, ps, h => by cases h

theorem plain_args {f : Expr → Option PV} {env : Env} {pos : Pos} : ∀ (es : List Expr) (ps : List PV), evL f es = some ps → (backTo pos (starEach es env)).any (·.1) = false
  | [], _, _ => rfl
  | e :: r, ps, h => by
    unfold evL at h
    split at h
    · rename_i hn
      split at h
      · rename_i p ps' h1 h2
        rw [star_one hn]
        show (false || (backTo pos (starEach r env)).any (·.1)) = false
        rw [plain_args r ps' h2]; rfl
      · first | exact no_some h | cases h
    · first | exact no_some h | cases h

theorem call_ok {g : Lang} {h₁ : Heap} {f : Expr → Option PV} {env : Env} {pos : Pos} {I : Heap → Prop} {v : Value} {args : List Expr} {kws : List Keyword} {ps : List PV} {ks : List (Str × PV)} {r : PV}
    (hA : AppOk prog w g h₁ k) (ok : Ok k A) (hI : ∀ h h', I h → Ext h h' → I h') (hB : ∀ h, I h → Ext h₁ h) (H : ∀ e p, f e = some p → ∀ s : Shared, I s.heap → Gives prog w A (eval e env) p s)
    (h1 : evL f args = some ps) (h2 : evK f kws = some ks) (hne : args.isEmpty = false) (hr : g.app v ps ks = some r) (hs : I s.heap) :
    Gives prog w A (callWith pos v [] (backTo pos (starEach args env)) (backToKw pos (keywordEach kws env))) r s := by
  intro Q E hQ
  obtain ⟨hf, hty, hc⟩ := hA v ps ks r hr
  obtain ⟨k1, k2, k3⟩ := evK_ok (pos := pos) hI H kws ks h2
  have hp := plain_args (env := env) (pos := pos) args ps h1
  have sp := evL_ok (pos := pos) hI H args ps h1 s hs
  cases args with
  | nil => cases hne
  | cons e rest =>
    have hn : noStar e = true := by
      unfold evL at h1
      split at h1
      · assumption
      · cases h1
    rw [star_one hn] at sp hp ⊢
    have run : ∀ (Q' : Args → Shared → Prop), (∀ vs kvs s', Paired (Is s'.heap) vs ps → Paired (KIs s'.heap) kvs ks → Keeps s s' → Q' ⟨vs, kvs⟩ s') → ∀ fv, wpAny (model prog w) A (evalArgs fv true ((false, eval e env) :: backTo pos (starEach rest env)) (backToKw pos (keywordEach kws env))) Q' E s := fun Q' hQ' fv => by
      refine evalArgs_kwB k1 ?_
      refine sp _ _ fun vs s₁ hvs m₁ => ?_
      refine k3 s₁ (hI _ _ hs (keeps_ext m₁)) _ _ fun kvs s₂ hks m₂ => ?_
      exact hQ' _ _ _ (paired_keep hvs (keeps_ext m₂)) hks (keeps_trans m₁ m₂)
    rcases hf with ⟨id, rfl⟩ | ⟨T, rfl⟩ | ⟨a, o, fd, rfl, ho, hd⟩
    · refine callWith_builtin_kwB hp k2 (run _ (fun vs kvs s' hvs hks m => ?_) _)
      exact hc A s' vs kvs ok ((hB _ hs).trans (keeps_ext m)) hvs hks _ _ fun v s'' hv m' => hQ v s'' hv (keeps_trans m m')
    · have e0 := hty T rfl
      subst e0
      have ek : kws = [] := by
        cases kws with
        | nil => rfl
        | cons kw r => 
          obtain ⟨nm, e, p⟩ := kw
          cases nm with
          | none => first | exact no_some h2 | cases h2
          | some x =>
            unfold evK at h2
            split at h2 <;> cases h2
      subst ek
      refine PyProof.Rows.callWith_type hp (run _ (fun vs kvs s' hvs hks m => ?_) _)
      exact hc A s' vs kvs ok ((hB _ hs).trans (keeps_ext m)) hvs hks _ _ fun v s'' hv m' => hQ v s'' hv (keeps_trans m m')
    · refine callWith_function_kw (o := o) (fd := fd) (run _ (fun vs kvs s' hvs hks m => ⟨⟨?_, hd⟩, ?_⟩) _)
      · exact ((hB _ hs).trans (keeps_ext m)) _ _ ho
      · exact hc A s' vs kvs ok ((hB _ hs).trans (keeps_ext m)) hvs hks _ _ fun v s'' hv m' => hQ v s'' hv (keeps_trans m m')

end
end Mine

end

section -- Eval4
open PySem PySem.W PyProof.Rows
namespace Mine

theorem inner_vis {osc cs : Scope} {γ ρL : Vars} {bs : List (Str × PV)} (h : scopeOk osc cs = true) : inner cs γ (vis osc γ ρL) bs = inner cs γ ρL bs := by
  funext x
  unfold inner
  split
  · rfl
  · split
    · rename_i hf
      unfold vis
      split
      · rename_i q hq; rw [hq]
      · rename_i hq
        rw [hq]
        rcases scopeOk_mem h (mem_lookup hf) with q | q | q
        · cases q.1
        · rw [if_neg (by rw [q.2]; exact nofun)]
        · first | exact no_some q | cases q
    · rfl
    · rfl

theorem items_stor {p : PV} {items : List PV} (h : itemsP p = some items) : ∀ q ∈ items, q.stor = true := by
  intro q hq
  unfold itemsP at h
  split at h
  all_goals first
    | (split at h
       · first | exact no_some h | cases h
         simp only [chars, octs, List.mem_map] at hq
         obtain ⟨_, _, rfl⟩ := hq
         rfl
       · cases h)
    | cases h

section
variable {prog : Program} {w : World} {A : Around} {k : Nat} {s : Shared}

theorem paired_is_atoms {h : Heap} : ∀ {vs : List Value} {l : List AV}, Paired AIs vs l → Paired (Is h) vs (l.map .atom)
  | _, _, .nil => .nil
  | _, _, .cons x t => .cons x (paired_is_atoms t)
theorem paired_is_tups {h : Heap} : ∀ {vs : List Value} {l : List (List AV)}, Paired (TIs h) vs l → Paired (Is h) vs (l.map .tup)
  | _, _, .nil => .nil
  | _, _, .cons x t => .cons x (paired_is_tups t)

theorem iters_of {p : PV} {items : List PV} {xv : Value} (ok : Ok k A) (h : itemsP p = some items) (hx : Is s.heap xv p) : Iters prog w A s xv items.length (itsOf items) := by
  unfold itemsP at h
  split at h
  · split at h
    · rename_i l hz
      cases h
      obtain ⟨T, vs, rfl, hl, hp⟩ := hx
      exact iters_seq ok.hh hl (paired_is_atoms hp) (by rw [sizeLine_is]; simp; omega)
    · first | exact no_some h | cases h
  · split at h
    · rename_i l hz
      cases h
      obtain ⟨T, vs, rfl, hl, hp⟩ := hx
      exact iters_seq ok.hh hl (paired_is_tups hp) (by rw [sizeLine_is]; simp; omega)
    · first | exact no_some h | cases h
  · split at h
    · rename_i n hz
      cases h
      obtain ⟨T, t, u, r, rfl, hr⟩ := hx
      have := iters_range (prog := prog) (w := w) ok.hh hr hz
      rw [List.length_map, List.length_range]
      intro Q E hQ
      refine this Q E fun I fp wr P St s₂ S => hQ I fp wr P St s₂ ?_
      refine ⟨S.walks, S.st, S.fp, S.old, ?_, S.size, S.owned, S.same, S.ge⟩
      intro i v hi hv
      have e : itsOf (List.map (fun (i : Nat) => PV.atom (.int (i : Int))) (List.range n)) i = .atom (.int i) := by
        unfold itsOf
        rw [List.getD_eq_getElem?_getD]
        simp [hi]
      rw [e]
      exact S.is i v hi hv
    · first | exact no_some h | cases h
  · split at h
    · rename_i x hz
      cases h
      obtain ⟨t, rfl⟩ := hx
      exact iters_str ok.hh (by rw [sizeLine_is]; have : x.cps.size = x.length := rfl; omega)
    · first | exact no_some h | cases h
  · split at h
    · rename_i b hz
      cases h
      obtain ⟨t, rfl⟩ := hx
      exact iters_bytes ok.hh (by rw [sizeLine_is]; omega)
    · first | exact no_some h | cases h
  · first | exact no_some h | cases h
end
end Mine

end

section -- Eval5
open PySem PySem.W PyProof.Rows
namespace Mine

theorem map_its (items : List PV) : (List.range items.length).map (itsOf items) = items := by
  apply List.ext_getElem
  · simp
  · intro i h1 h2
    simp [itsOf, List.getD_eq_getElem?_getD, h2]

theorem filter_map_eq {α β : Type} (t : α → Bool) (f : α → β) : ∀ l : List α, (l.filter t).map f = l.filterMap fun i => if t i then some (f i) else none
  | [] => rfl
  | a :: r => by
    rw [List.filter_cons, List.filterMap_cons]
    cases h : t a with
    | true => simp [filter_map_eq t f r]
    | false => simp [filter_map_eq t f r]

noncomputable def tstOf (F : PV → Option (Option PV)) (items : List PV) (i : Nat) : Bool := match F (itsOf items i) with
  | some (some _) => true
  | _ => false
noncomputable def valOf (F : PV → Option (Option PV)) (items : List PV) (i : Nat) : PV := match F (itsOf items i) with
  | some (some q) => q
  | _ => .atom .none

theorem compP_all {F : PV → Option (Option PV)} : ∀ {items out : List PV}, compP F items = some out → out = items.filterMap (fun it => match F it with | some (some q) => some q | _ => none) ∧ ∀ it ∈ items, (F it).isSome = true
  | [], out, h => by cases h; exact ⟨rfl, fun _ h => nomatch h⟩
  | p :: r, out, h => by
    unfold compP at h
    split at h
    · rename_i q qs h1 h2
      cases h
      obtain ⟨e, a⟩ := compP_all h2
      refine ⟨?_, fun it hit => ?_⟩
      · rw [List.filterMap_cons, h1, e]
      · rcases List.mem_cons.mp hit with rfl | hit
        · rw [h1]; rfl
        · exact a it hit
    · rename_i qs h1 h2
      cases h
      obtain ⟨e, a⟩ := compP_all h2
      refine ⟨?_, fun it hit => ?_⟩
      · rw [List.filterMap_cons, h1, e]
      · rcases List.mem_cons.mp hit with rfl | hit
        · rw [h1]; rfl
        · exact a it hit
    · first | exact no_some h | cases h

theorem compP_out {F : PV → Option (Option PV)} {items out : List PV} (h : compP F items = some out) : outOf (tstOf F items) (valOf F items) items.length = out := by
  obtain ⟨e, _⟩ := compP_all h
  rw [e]
  unfold outOf
  rw [filter_map_eq]
  have : (fun i => if tstOf F items i = true then some (valOf F items i) else none) = (fun it => match F it with | some (some q) => some q | _ => none) ∘ itsOf items := by
    funext i
    unfold tstOf valOf
    show _ = (match F (itsOf items i) with | some (some q) => some q | _ => none)
    split <;> simp_all
  rw [this, ← List.filterMap_map, map_its]

theorem atomsP_eq : ∀ {out : List PV} {l : List AV}, atomsP out = some l → out = l.map .atom
  | [], l, h => by cases h; rfl
  | p :: r, l, h => by
    unfold atomsP at h
    split at h
    · rename_i e; cases e
    · rename_i a r' e
      cases e
      simp only [Option.map_eq_some_iff] at h
      obtain ⟨l', h', rfl⟩ := h
      rw [atomsP_eq h']; rfl
    · first | exact no_some h | cases h
theorem tupsP_eq : ∀ {out : List PV} {l : List (List AV)}, tupsP out = some l → out = l.map .tup
  | [], l, h => by cases h; rfl
  | p :: r, l, h => by
    unfold tupsP at h
    split at h
    · rename_i e; cases e
    · rename_i a r' e
      cases e
      simp only [Option.map_eq_some_iff] at h
      obtain ⟨l', h', rfl⟩ := h
      rw [tupsP_eq h']; rfl
    · first | exact no_some h | cases h

theorem packP_ok {t : Bool} {out : List PV} {p : PV} (h : packP t out = some p) : Packs out p := by
  unfold packP at h
  split at h
  · simp only [Option.map_eq_some_iff] at h
    obtain ⟨l, h', rfl⟩ := h
    exact tupsP_eq h'
  · simp only [Option.map_eq_some_iff] at h
    obtain ⟨l, h', rfl⟩ := h
    exact atomsP_eq h'

theorem paired_atoms {h : Heap} : ∀ {vs : List Value} {l : List AV}, Paired (Is h) vs (l.map .atom) → Paired AIs vs l
  | _, [], .nil => .nil
  | _, _ :: _, .cons x t => .cons x (paired_atoms t)
theorem paired_tups {h : Heap} : ∀ {vs : List Value} {l : List (List AV)}, Paired (Is h) vs (l.map .tup) → Paired (TIs h) vs l
  | _, [], .nil => .nil
  | _, _ :: _, .cons x t => .cons x (paired_tups t)

section
variable {prog : Program} {w : World} {A : Around} {k : Nat} {s : Shared}

noncomputable def EvOk (prog : Program) (w : World) (g : Lang) (h₁ : Heap) (k : Nat) (ev : Option Scope → Vars → Expr → Option PV) : Prop :=
  ∀ sc ρ e p env A (s : Shared), ev sc ρ e = some p → Ok k A → Inv prog w g h₁ sc ρ env s.heap → Gives prog w A (eval e env) p s
noncomputable def TsOk (prog : Program) (w : World) (g : Lang) (h₁ : Heap) (k : Nat) (ts : Option Scope → Vars → Expr → Option Bool) : Prop :=
  ∀ sc ρ e b env A (s : Shared), ts sc ρ e = some b → Ok k A → Inv prog w g h₁ sc ρ env s.heap → ∀ (Q : Bool → Shared → Prop) (E : Value → Shared → Prop), (∀ s', Keeps s s' → Q b s') → wpAny (model prog w) A (isTrue e env (eval e env)) Q E s

/-- one turn of a block -/
theorem turn_ok {g : Lang} {h₁ h₀ : Heap} {ev : Option Scope → Vars → Expr → Option PV} {ts : Option Scope → Vars → Expr → Option Bool} (hev : EvOk prog w g h₁ k ev) (hts : TsOk prog w g h₁ k ts)
    {d : FD} {cs : Scope} {ρL : Vars} {target elt : Expr} {ifs : List Expr} {items out : List PV} (ok : Ok k A) (hst : ∀ q ∈ items, q.stor = true) (hk : d.sc.kind = .function) (hok : scopeOk d.sc cs = true) (F : FrameOk d h₀ s.heap ρL) (G : Gl h₀ g.γ) (hb : Ext h₁ s.heap)
    (hc : compP (eltF (ev none) (ts none) cs g.γ (vis d.sc g.γ ρL) target elt ifs) items = some out) :
    Turn prog w A s elt target ifs cs (clOf d.cells cs.names []) d.env items.length (itsOf items) (tstOf (eltF (ev none) (ts none) cs g.γ (vis d.sc g.γ ρL) target elt ifs) items) (valOf (eltF (ev none) (ts none) cs g.γ (vis d.sc g.γ ρL) target elt ifs) items)
      (fun i h m' => ∃ bs, bindP target (itsOf items i) = some bs ∧ boundNames cs bs = true ∧ ∀ x q, bs.lookup x = some q → ∃ v, m' x = some v ∧ Is h v q) := by
  obtain ⟨_, hall⟩ := compP_all hc
  have hmem : ∀ i, i < items.length → itsOf items i ∈ items := fun i hi => by
    unfold itsOf
    rw [List.getD_eq_getElem?_getD, List.getElem?_eq_getElem hi]
    exact List.getElem_mem hi
  have inv : ∀ (C : Addr) (s₃ : Shared) m₃ bs, s.heap.objs.size ≤ C → s₃.heap.Ns C m₃ → boundNames cs bs = true → (∀ x q, bs.lookup x = some q → ∃ v, m₃ x = some v ∧ Is s₃.heap v q) → Ext s.heap s₃.heap →
      Inv prog w g h₁ none (inner cs g.γ (vis d.sc g.γ ρL) bs) (compEnvC cs (clOf d.cells cs.names []) C d.env) s₃.heap := fun C s₃ m₃ bs hC hn hbn hbs hx => by
    refine ⟨hb.trans hx, ?_, fun _ e => nomatch e⟩
    rw [inner_vis hok]
    refine sees_inner hk hok F G hx hn fun x q e => ⟨?_, hbs x q e⟩
    unfold boundNames at hbn
    rw [List.all_eq_true] at hbn
    exact beq_iff_eq.mp (hbn (x, q) (mem_of_lookup e))
  refine ⟨?_, ?_, ?_, ?_⟩
  · intro C i v s₃ m₃ Q E hC hi hv hn hx hQ
    have h0 := hall _ (hmem i hi)
    unfold eltF at h0
    split at h0
    · rename_i bs hbs
      split at h0
      · rename_i hbn
        refine bind_ok ok hbs hbn (scopeOk_kind hok) (hst _ (hmem i hi)) hv hn fun h' tk m' hn' hB hk' => hQ h' tk m' hn' ⟨bs, hbs, hbn, hB⟩ hk'
      · cases h0
    · cases h0
  · intro C i s₃ m₃ E hC hi hn hB hx
    obtain ⟨bs, hbs, hbn, hv⟩ := hB
    have h0 := hall _ (hmem i hi)
    cases hb3 : ifsV (ts none (inner cs g.γ (vis d.sc g.γ ρL) bs)) ifs with
    | none =>
      unfold eltF at h0
      simp [hbs, hbn, hb3] at h0
    | some b =>
      have ht : tstOf (eltF (ev none) (ts none) cs g.γ (vis d.sc g.γ ρL) target elt ifs) items i = b := by
        unfold tstOf
        unfold eltF at h0 ⊢
        simp only [hbs, hbn, if_true, hb3] at h0 ⊢
        cases b with
        | false => rfl
        | true =>
          cases hv3 : eltV (ev none (inner cs g.γ (vis d.sc g.γ ρL) bs)) elt with
          | none => simp [hv3] at h0
          | some q => rfl
      rw [ht]
      cases ifs with
      | nil => cases hb3; exact wpAny_tests_nil ⟨rfl, keeps_refl _⟩
      | cons t r =>
        cases r with
        | nil => exact wpAny_tests_one (hts none _ t b _ A s₃ hb3 ok (inv C s₃ m₃ bs hC hn hbn hv hx) _ _ fun s' hk' => ⟨rfl, hk'⟩)
        | cons _ _ => cases hb3
  · rintro i h h' m' ⟨bs, h1, h2, h3⟩ hx
    exact ⟨bs, h1, h2, fun x q e => let ⟨v, a, b⟩ := h3 x q e; ⟨v, a, b.keep hx⟩⟩
  · intro C i s₃ m₃ E hC hi ht hn hB hx
    obtain ⟨bs, hbs, hbn, hv⟩ := hB
    have hI := inv C s₃ m₃ bs hC hn hbn hv hx
    obtain ⟨q, hq⟩ : ∃ q, eltF (ev none) (ts none) cs g.γ (vis d.sc g.γ ρL) target elt ifs (itsOf items i) = some (some q) := by
      unfold tstOf at ht
      split at ht
      · rename_i q e; exact ⟨q, e⟩
      · cases ht
    have hval : valOf (eltF (ev none) (ts none) cs g.γ (vis d.sc g.γ ρL) target elt ifs) items i = q := by
      unfold valOf
      rw [hq]
    rw [hval]
    unfold eltF at hq
    rw [hbs] at hq
    simp only [hbn, if_true] at hq
    split at hq
    · simp only [Option.map_eq_some_iff] at hq
      obtain ⟨q', hq, e⟩ := hq
      cases e
      by_cases htup : ∃ es kk pp, elt = .Tuple es kk pp
      · obtain ⟨es, kk, pp, rfl⟩ := htup
        simp only [eltV] at hq
        split at hq
        · rename_i ps hps
          split at hq
          · rename_i hz
            simp only [Option.map_eq_some_iff] at hq
            obtain ⟨l, hl, e⟩ := hq
            cases e
            refine Tuple_ ?_
            refine evL_ok (I := Inv prog w g h₁ none (inner cs g.γ (vis d.sc g.γ ρL) bs) (compEnvC cs (clOf d.cells cs.names []) C d.env)) (fun _ _ i k => i.keep k) (fun e p he s hs => hev none _ e p _ A s he ok hs) es ps hps s₃ hI _ _ fun vs s₄ hvs k₄ => ?_
            refine wpAny_newTuple ?_ (by rw [hvs.length, sizeLine_is]; omega)
            have hCl : C < s₄.heap.objs.size := (hn.keeps (keeps_ext k₄)).lt
            rw [atomsP_eq hl] at hvs
            exact ⟨⟨_, vs, rfl, hCl, isTuple_new _ _, paired_atoms hvs⟩, keeps_trans k₄ (push_keeps _ _)⟩
          · cases hq
        · cases hq
      · have hp : atomOnly (ev none (inner cs g.γ (vis d.sc g.γ ρL) bs) elt) = some q := by
          unfold eltV at hq
          split at hq
          · exact absurd ⟨_, _, _, rfl⟩ htup
          · exact hq
        have : ∃ a, ev none (inner cs g.γ (vis d.sc g.γ ρL) bs) elt = some (.atom a) ∧ q = .atom a := by
          unfold atomOnly at hp
          split at hp
          · rename_i a e; cases hp; exact ⟨a, e, rfl⟩
          · first | exact no_some hp | cases hp
        obtain ⟨a, ha, rfl⟩ := this
        exact hev none _ elt _ _ A s₃ ha ok hI _ _ fun v s' hv' k' => ⟨hv', k'⟩
    · cases hq
    · cases hq
end
end Mine

end

section -- Eval6
open PySem PySem.W PyProof.Rows
namespace Mine

section
variable {prog : Program} {w : World} {A : Around} {k : Nat} {s : Shared}

theorem notSet {g : Lang} {n : Nat} {sc : Option Scope} {ρ : Vars} {e : Expr} {p : PV} (h : evP g n sc ρ e = some p) : ∀ env x, foldedSetIterable e env x = pure x := by
  cases n with
  | zero => first | exact no_some h | cases h
  | succ n => cases e <;> first | (intros; rfl) | (exact no_some h)

theorem const_ok {c : Const} {a : AV} {env : Env} (h : constP c = some a) : Gives prog w A (constValue env c) (.atom a) s := by
  intro Q E hQ
  cases c with
  | none => cases h; exact wpAny_pure (hQ _ _ rfl (keeps_refl _))
  | bool b => cases h; exact wpAny_pure (hQ _ _ rfl (keeps_refl _))
  | int i => cases h; exact wpAny_mkInt (hQ _ _ ⟨_, rfl⟩ (tok_keeps _ _))
  | str x => cases h; exact wpAny_mkText (hQ _ _ ⟨_, rfl⟩ (tok_keeps _ _))
  | bytes b =>
    cases h
    show wpAny _ _ (mkTextBytes _) _ _ _
    unfold mkTextBytes
    exact wpAny_bind (wpAny_fresh (wpAny_pure (hQ _ _ ⟨_, rfl⟩ (tok_keeps _ _))))
  | _ => first | exact no_some h | cases h

theorem two_ok {g : Lang} {h₁ : Heap} {ev : Option Scope → Vars → Expr → Option PV} (hev : EvOk prog w g h₁ k ev) {sc : Option Scope} {ρ : Vars} {env : Env} {l r : Expr} {a b : PV} (ok : Ok k A) (hI : Inv prog w g h₁ sc ρ env s.heap)
    (h1 : ev sc ρ l = some a) (h2 : ev sc ρ r = some b) {f : Value → Value → Sem Value} {Q : Value → Shared → Prop} {E : Value → Shared → Prop}
    (hQ : ∀ va vb s', Is s'.heap va a → Is s'.heap vb b → Keeps s s' → Inv prog w g h₁ sc ρ env s'.heap → wpAny (model prog w) A (f va vb) Q E s') :
    wpAny (model prog w) A (eval l env) (fun va s₁ => wpAny (model prog w) A (eval r env) (fun vb s₂ => wpAny (model prog w) A (f va vb) Q E s₂) E s₁) E s := by
  refine hev sc ρ l a env A s h1 ok hI _ _ fun va s₁ ha k₁ => ?_
  refine hev sc ρ r b env A s₁ h2 ok (hI.keep (keeps_ext k₁)) _ _ fun vb s₂ hb k₂ => ?_
  exact hQ va vb s₂ (ha.keep (keeps_ext k₂)) hb (keeps_trans k₁ k₂) (hI.keep (keeps_ext (keeps_trans k₁ k₂)))

theorem part_ok {g : Lang} {h₁ : Heap} {ev : Option Scope → Vars → Expr → Option PV} (hev : EvOk prog w g h₁ k ev) {sc : Option Scope} {ρ : Vars} {env : Env} {o : Option Expr} {p : PV} (ok : Ok k A) (hI : Inv prog w g h₁ sc ρ env s.heap)
    (h : (match o with | none => some (PV.atom .none) | some e => ev sc ρ e) = some p) : Gives prog w A (valueOrNone (evalOpt o env)) p s := by
  cases o with
  | none => cases h; exact fun Q E hQ => wpAny_pure (hQ _ _ rfl (keeps_refl _))
  | some e => exact hev sc ρ e p env A s h ok hI

theorem listP_ok {ps : List PV} {p : PV} {vs : List Value} (h : listP ps = some p) (hv : Paired (Is s.heap) vs ps) : Gives prog w A (newList vs) p s := by
  intro Q E hQ
  unfold listP at h
  split at h
  · rename_i hz
    refine wpAny_newList ?_ (by rw [hv.length, sizeLine_is]; omega)
    split at h
    · simp only [Option.map_eq_some_iff] at h
      obtain ⟨l, hl, rfl⟩ := h
      rw [tupsP_eq hl] at hv
      exact hQ _ _ ⟨_, vs, rfl, isList_new _ _, (paired_tups hv).mono fun _ _ q => TIs.keepS q fun b o _ _ e _ => Heap.get?_push_of_some _ e⟩ (push_keeps _ _)
    · simp only [Option.map_eq_some_iff] at h
      obtain ⟨l, hl, rfl⟩ := h
      rw [atomsP_eq hl] at hv
      exact hQ _ _ ⟨_, vs, rfl, isList_new _ _, paired_atoms hv⟩ (push_keeps _ _)
  · first | exact no_some h | cases h

theorem base_eq {o : Expr} {m : Str} {env : Env} (h : notCall o = true) (t : Sem Value) : attributeBase o m env t = t := by
  cases o with
  | Call f args kws pos => cases f <;> first | rfl | cases h
  | _ => rfl

theorem evP_sub {g : Lang} {n : Nat} {sc : Option Scope} {ρ : Vars} {v i : Expr} {pos : Pos} (h : notSlice i = true) : evP g (n + 1) sc ρ (.Subscript v i pos) = (match evP g n sc ρ v, evP g n sc ρ i with | some a, some b => itemP a b | _, _ => none) := by
  cases i <;> first | rfl | cases h

theorem ev_step {g : Lang} {h₁ : Heap} (hA : AppOk prog w g h₁ k) (hM : MethOk prog w g h₁ k) {n : Nat} (hev : EvOk prog w g h₁ k (evP g n)) (hts : TsOk prog w g h₁ k (tsP g n)) : EvOk prog w g h₁ k (evP g (n + 1)) := by
  intro sc ρ e p env A s h ok hI
  have hP : EvOk prog w g h₁ k (evP g n) := hev
  cases e with
  | Constant c _ _ =>
    replace h : (constP c).map PV.atom = some p := h
    simp only [Option.map_eq_some_iff] at h
    obtain ⟨a, ha, rfl⟩ := h
    exact const_ok ha
  | Name x pos =>
    replace h : (if x == (Str.ofString "__debug__") then none else ρ x) = some p := h
    split at h
    · first | exact no_some h | cases h
    · rename_i hd
      intro Q E hQ
      obtain ⟨v, hv, hl⟩ := hI.sees x p h
      exact wpAny_Name (hl A s _ _ (Ext.refl _) (hQ v s hv (keeps_refl _))) (by simpa using hd)
  | BinOp l op r pos =>
    replace h : (match evP g n sc ρ l, evP g n sc ρ r with | some a, some b => binP op a b | _, _ => none) = some p := h
    split at h
    · rename_i a b h1 h2
      intro Q E hQ
      exact wpAny_BinOp (two_ok hev ok hI h1 h2 fun va vb s' ha hb k' _ => binP_ok h ha hb _ _ fun v s'' hv k'' => hQ v s'' hv (keeps_trans k' k''))
    · first | exact no_some h | cases h
  | UnaryOp op x pos =>
    cases op with
    | Not =>
      replace h : (match evP g n sc ρ x with | some a => (truthP a).map fun b => PV.atom (.bool !b) | none => none) = some p := h
      split at h
      · rename_i a h1
        simp only [Option.map_eq_some_iff] at h
        obtain ⟨b, hb, rfl⟩ := h
        intro Q E hQ
        refine wpAny_UnaryOp (hev sc ρ x a env A s h1 ok hI _ _ fun v s₁ hv k₁ => not_of (truthP_ok hb hv fun s₂ k₂ => hQ _ _ rfl (keeps_trans k₁ k₂)))
      · first | exact no_some h | cases h
    | _ => first | exact no_some h | cases h
  | BoolOp op vs pos =>
    cases op with
    | And => first | exact no_some h | cases h
    | Or =>
      cases vs with
      | nil => first | exact no_some h | cases h
      | cons a vs =>
        cases vs with
        | nil => first | exact no_some h | cases h
        | cons b vs =>
          cases vs with
          | cons _ _ => first | exact no_some h | cases h
          | nil =>
            replace h : (match evP g n sc ρ a with | some v => (match truthP v with | some true => some v | some false => evP g n sc ρ b | none => none) | none => none) = some p := h
            split at h
            · rename_i v h1
              intro Q E hQ
              show wpAny _ _ (boolOp pos .Or [eval a env, eval b env]) _ _ _
              unfold boolOp
              refine wpAny_bind (hev sc ρ a v env A s h1 ok hI _ _ fun va s₁ hva k₁ => ?_)
              refine wpAny_bind (wpAny_standAt (wpAny_bind (wpAny_holding ?_)))
              split at h
              · rename_i ht
                cases h
                exact truthP_ok ht hva fun s₂ k₂ => wpAny_pure (hQ _ _ (hva.keep (keeps_ext k₂)) (keeps_trans k₁ k₂))
              · rename_i ht
                refine truthP_ok ht hva fun s₂ k₂ => ?_
                show wpAny _ _ (boolOp pos .Or [eval b env]) _ _ _
                unfold boolOp
                have k12 := keeps_trans k₁ k₂
                exact hev sc ρ b p env A s₂ h ok (hI.keep (keeps_ext k12)) _ _ fun vb s₃ hvb k₃ => hQ _ _ hvb (keeps_trans k12 k₃)
              · first | exact no_some h | cases h
            · first | exact no_some h | cases h
  | Compare l ops rs pos =>
    cases ops with
    | nil => first | exact no_some h | cases h
    | cons op ops =>
      cases ops with
      | cons _ _ => first | exact no_some h | cases h
      | nil =>
        cases rs with
        | nil => first | exact no_some h | cases h
        | cons r rs =>
          cases rs with
          | cons _ _ => first | exact no_some h | cases h
          | nil =>
            replace h : (if behindInMarks op r then none else match evP g n sc ρ l, evP g n sc ρ r with | some a, some b => (cmpP op a b).map fun c => PV.atom (.bool c) | _, _ => none) = some p := h
            split at h
            · first | exact no_some h | cases h
            · rename_i hm
              split at h
              · rename_i a b h1 h2
                simp only [Option.map_eq_some_iff] at h
                obtain ⟨c, hc, rfl⟩ := h
                intro Q E hQ
                exact wpAny_Compare1 (two_ok hev ok hI h1 h2 fun va vb s' ha hb k' _ => cmpP_ok ok hc ha hb (hQ _ _ rfl k')) (by simpa using hm)
              · first | exact no_some h | cases h
  | IfExp t b o pos =>
    replace h : (match tsP g n sc ρ t with | some true => evP g n sc ρ b | some false => evP g n sc ρ o | none => none) = some p := h
    intro Q E hQ
    refine wpAny_IfExp ?_
    split at h
    · rename_i ht
      refine hts sc ρ t true env A s ht ok hI _ _ fun s₁ k₁ => ?_
      simp only [if_true]
      exact hev sc ρ b p env A s₁ h ok (hI.keep (keeps_ext k₁)) _ _ fun v s₂ hv k₂ => hQ v s₂ hv (keeps_trans k₁ k₂)
    · rename_i ht
      refine hts sc ρ t false env A s ht ok hI _ _ fun s₁ k₁ => ?_
      simp only [Bool.false_eq_true, if_false]
      exact hev sc ρ o p env A s₁ h ok (hI.keep (keeps_ext k₁)) _ _ fun v s₂ hv k₂ => hQ v s₂ hv (keeps_trans k₁ k₂)
    · first | exact no_some h | cases h
  | List es pos =>
    replace h : (match evL (evP g n sc ρ) es with | some ps => listP ps | none => none) = some p := h
    split at h
    · rename_i ps hps
      intro Q E hQ
      rw [arm_eval_List]
      refine wpAny_bind (wpAny_standAt (wpAny_bind ?_))
      refine evL_ok (I := Inv prog w g h₁ sc ρ env) (fun _ _ i k => i.keep k) (fun e p he s hs => hev sc ρ e p env A s he ok hs) es ps hps s hI _ _ fun vs s₁ hvs k₁ => ?_
      exact listP_ok h hvs _ _ fun v s₂ hv k₂ => hQ v s₂ hv (keeps_trans k₁ k₂)
    · first | exact no_some h | cases h
  | Tuple es kk pos =>
    replace h : (match evL (evP g n sc ρ) es with | some ps => if ps.length ≤ 1000000 then (atomsP ps).map PV.tup else none | none => none) = some p := h
    split at h
    · rename_i ps hps
      split at h
      · rename_i hz
        simp only [Option.map_eq_some_iff] at h
        obtain ⟨l, hl, rfl⟩ := h
        intro Q E hQ
        refine Tuple_ ?_
        refine evL_ok (I := Inv prog w g h₁ sc ρ env) (fun _ _ i k => i.keep k) (fun e p he s hs => hev sc ρ e p env A s he ok hs) es ps hps s hI _ _ fun vs s₁ hvs k₁ => ?_
        refine wpAny_newTuple ?_ (by rw [hvs.length, sizeLine_is]; omega)
        rw [atomsP_eq hl] at hvs
        exact hQ _ _ ⟨_, vs, rfl, isTuple_new _ _, paired_atoms hvs⟩ (keeps_trans k₁ (push_keeps _ _))
      · first | exact no_some h | cases h
    · first | exact no_some h | cases h
  | Subscript v i pos =>
    by_cases hsl : ∃ lo hi sp, i = .Slice lo hi none sp
    · obtain ⟨lo, hi, sp, rfl⟩ := hsl
      replace h : (match evP g n sc ρ v, (match lo with | none => some (PV.atom .none) | some e => evP g n sc ρ e), (match hi with | none => some (PV.atom .none) | some e => evP g n sc ρ e) with | some p, some (.atom a), some (.atom b) => sliceP p a b | _, _, _ => none) = some p := h
      split at h
      · rename_i pv a b h1 h2 h3
        intro Q E hQ
        refine Subscript_ ?_
        refine hev sc ρ v pv env A s h1 ok hI _ _ fun o s₁ ho k₁ => ?_
        rw [arm_eval_Slice]
        refine wpAny_bind (part_ok hev ok (hI.keep (keeps_ext k₁)) h2 _ _ fun vl s₂ hl k₂ => ?_)
        have k12 := keeps_trans k₁ k₂
        refine wpAny_bind (wpAny_holding (part_ok hev ok (hI.keep (keeps_ext k12)) h3 _ _ fun vu s₃ hu k₃ => ?_))
        have k123 := keeps_trans k12 k₃
        refine wpAny_bind (wpAny_holding (wpAny_pure ?_))
        exact sliceP_ok h (ho.keep (keeps_ext (keeps_trans k₂ k₃))) hl hu fun v s' hv k' => hQ v s' hv (keeps_trans k123 k')
      · first | exact no_some h | cases h
    · have hn : notSlice i = true := by
        cases i with
        | Slice lo hi st sp =>
          cases st with
          | none => exact absurd ⟨_, _, _, rfl⟩ hsl
          | some _ => first | exact no_some h | cases h
        | _ => rfl
      rw [evP_sub hn] at h
      have h' : ∃ a b, evP g n sc ρ v = some a ∧ evP g n sc ρ i = some b ∧ itemP a b = some p := by
        split at h
        · rename_i a b h1 h2
          exact ⟨a, b, h1, h2, h⟩
        · first | exact no_some h | cases h
      obtain ⟨a, b, h1, h2, h3⟩ := h'
      intro Q E hQ
      exact Subscript_ (two_ok hev ok hI h1 h2 fun va vb s' ha hb k' _ => itemP_ok h3 hn ha hb _ _ fun v s'' hv k'' => hQ v s'' hv (keeps_trans k' k''))
  | Call f args kws pos =>
    cases f with
    | Attribute o m ap =>
      replace h : (if kws.isEmpty && (ap.endLine == pos.line) && decide (args.length < 20) && notCall o then match evP g n sc ρ o, evL (evP g n sc ρ) args with | some a, some ps => g.meth m a ps | _, _ => none else none) = some p := h
      split at h
      · rename_i hc
        simp only [Bool.and_eq_true, decide_eq_true_eq] at hc
        obtain ⟨⟨⟨c1, c2⟩, c3⟩, c4⟩ := hc
        split at h
        · rename_i a ps h1 h2
          have ek : kws = [] := List.isEmpty_iff.mp c1
          subst ek
          intro Q E hQ
          obtain ⟨T, id, pa, sl, ty, hm⟩ := hM m a ps p h
          refine wpAny_Call_method_lateS (base_eq c4 _) ?_ c2 ?_
          · rw [Bool.and_eq_true, Bool.and_eq_true]
            refine ⟨⟨?_, rfl⟩, ?_⟩
            · have := plain_args (env := env) (pos := pos) args ps h2
              rw [List.any_eq_false] at this
              rw [List.all_eq_true]
              intro x hx
              simpa using this x hx
            · simp
              omega
          · refine hev sc ρ o a env A s h1 ok hI _ _ fun ov s₁ ho k₁ => ?_
            have I1 := hI.keep (keeps_ext k₁)
            obtain ⟨t1, t2, _⟩ := hm s₁ ov I1.base ho
            refine ⟨T, id, pa, sl, ty, t1, t2, ?_⟩
            have sp := evL_ok (pos := pos) (I := Inv prog w g h₁ sc ρ env) (fun _ _ i k => i.keep k) (fun e p he s hs => hev sc ρ e p env A s he ok hs) args ps h2 s₁ I1
            refine Calls.callWith_builtin (plain_args (env := env) (pos := pos) args ps h2) ?_
            have fin : ∀ vs s₂, Paired (Is s₂.heap) vs ps → Keeps s₁ s₂ → wpAny (model prog w) A (call (.builtin id) ([ov] ++ vs) []) Q E s₂ := fun vs s₂ hvs k₂ => by
              obtain ⟨_, _, hg⟩ := hm s₂ ov (I1.keep (keeps_ext k₂)).base (ho.keep (keeps_ext k₂))
              exact hg A vs ok hvs _ _ fun v s' hv k' => hQ v s' hv (keeps_trans k₁ (keeps_trans k₂ k'))
            cases args with
            | nil =>
              cases h2
              exact evalArgs_nil3 (fin [] s₁ .nil (keeps_refl _))
            | cons e rest =>
              have hn : noStar e = true := by
                unfold evL at h2
                split at h2
                · assumption
                · first | exact no_some h2 | cases h2
              rw [star_one hn] at sp ⊢
              exact Calls.evalArgs_plain (sp _ _ fun vs s₂ hvs k₂ => fin vs s₂ hvs k₂)
        · first | exact no_some h | cases h
      · first | exact no_some h | cases h
    | Name x np =>
      replace h : (match evP g n sc ρ (.Name x np), evL (evP g n sc ρ) args, evK (evP g n sc ρ) kws with | some (.fn v), some ps, some ks => if args.isEmpty || decide (args.length + 2 * kws.length > 30) then none else g.app v ps ks | _, _, _ => none) = some p := h
      split at h
      · rename_i v ps ks h1 h2 h3
        split at h
        · first | exact no_some h | cases h
        · rename_i hne
          simp only [Bool.or_eq_true, not_or] at hne
          intro Q E hQ
          refine wpAny_Call_Name_kw ?_
          have h1' : evP g n sc ρ (.Name x np) = some (.fn v) := h1
          refine hev sc ρ (.Name x np) (.fn v) env A s h1' ok hI _ _ fun fv s₁ hf k₁ => ?_
          cases hf
          refine call_ok (I := Inv prog w g h₁ sc ρ env) hA ok (fun _ _ i k => i.keep k) (fun _ i => i.base) (fun e p he s hs => hev sc ρ e p env A s he ok hs) h2 h3 (by simpa using hne.1) h (hI.keep (keeps_ext k₁)) _ _ fun v s₂ hv k₂ => hQ v s₂ hv (keeps_trans k₁ k₂)
      · first | exact no_some h | cases h
    | _ => first | exact no_some h | cases h
  | ListComp elt gens cs pos =>
    cases gens with
    | nil => first | exact no_some h | cases h
    | cons g0 gs =>
      obtain ⟨target, iter, ifs, ia⟩ := g0
      cases gs with
      | cons _ _ =>
        cases ia with
        | negSucc m => first | exact no_some h | cases h
        | ofNat m => cases m <;> exact no_some h
      | nil =>
        cases ia with
        | negSucc m => first | exact no_some h | cases h
        | ofNat m =>
        cases m with
        | succ m => first | exact no_some h | cases h
        | zero =>
          replace h : (match (generalizing := false) sc with | some osc => if scopeOk osc cs then (match evP g n sc ρ iter with | some src => (match itemsP src with | some items => (match compP (eltF (evP g n none) (tsP g n none) cs g.γ ρ target elt ifs) items with | some out => packP (isTuple elt) out | none => none) | none => none) | none => none) else none | none => none) = some p := h
          split at h
          · rename_i osc
            split at h
            · rename_i hok
              split at h
              · rename_i src hsrc
                split at h
                · rename_i items hit
                  split at h
                  · rename_i out hout
                    obtain ⟨d, h₀, ρL, rfl, rfl, hk, F, G, rfl⟩ := hI.host osc rfl
                    intro Q E hQ
                    refine comp_eval (p := p) (scopeOk_closure hok) (scopeOk_cell hok) (scopeOk_kind hok) (scopeOk_local hok) (notSet hsrc _) ?_
                    refine hev _ _ iter src d.env A s hsrc ok hI _ _ fun xv s₁ hx k₁ => ?_
                    refine ⟨items.length, itsOf items, _, _, _, iters_of ok hit hx, turn_ok hev hts ok (items_stor hit) hk hok (F.keep (keeps_ext k₁)) G (hI.base.trans (keeps_ext k₁)) hout, ?_, fun v s' hv k' => hQ v s' hv (keeps_trans k₁ k')⟩
                    rw [compP_out hout]
                    exact packP_ok h
                  · first | exact no_some h | cases h
                · first | exact no_some h | cases h
              · first | exact no_some h | cases h
            · first | exact no_some h | cases h
          · first | exact no_some h | cases h
  | _ => first | exact no_some h | cases h

end
end Mine

end

section -- Eval7
open PySem PySem.W PyProof.Rows
namespace Mine

section
variable {prog : Program} {w : World} {A : Around} {k : Nat} {s : Shared}

theorem plain_isTrue {e : Expr} (h : plainTest e = true) (env : Env) (t : Sem Value) : isTrue e env t = (do let v ← t; standAt e.pos; holding [v] (truthy v)) := by
  cases e <;> first | rfl | cases h

theorem tsP_gen {g : Lang} {n : Nat} {sc : Option Scope} {ρ : Vars} {e : Expr} (h : plainTest e = true) : tsP g (n + 1) sc ρ e = (match evP g n sc ρ e with | some a => truthP a | none => none) := by
  cases e <;> first | rfl | cases h

theorem tsP_cases {g : Lang} {n : Nat} {sc : Option Scope} {ρ : Vars} {e : Expr} {b : Bool} (h : tsP g (n + 1) sc ρ e = some b) : (∃ x pos c, e = .UnaryOp .Not x pos ∧ tsP g n sc ρ x = some c ∧ b = !c) ∨ (∃ op vs pos, e = .BoolOp op vs pos ∧ allT (tsP g n sc ρ) op vs = some b) ∨
    (∃ l op r pos a c, e = .Compare l [op] [r] pos ∧ behindInMarks op r = false ∧ evP g n sc ρ l = some a ∧ evP g n sc ρ r = some c ∧ cmpP op a c = some b) ∨ (plainTest e = true ∧ ∃ a, evP g n sc ρ e = some a ∧ truthP a = some b) := by
  by_cases hp : plainTest e = true
  · refine .inr (.inr (.inr ⟨hp, ?_⟩))
    rw [tsP_gen hp] at h
    split at h
    · rename_i a ha
      exact ⟨a, ha, h⟩
    · first | exact no_some h | cases h
  · cases e with
    | UnaryOp op x pos =>
      cases op with
      | Not =>
        replace h : (tsP g n sc ρ x).map (!·) = some b := h
        rw [Option.map_eq_some_iff] at h
        obtain ⟨c, hc, rfl⟩ := h
        exact .inl ⟨x, pos, c, rfl, hc, rfl⟩
      | _ => first | exact no_some h | cases h
    | BoolOp op vs pos => exact .inr (.inl ⟨op, vs, pos, rfl, h⟩)
    | Compare l ops rs pos =>
      match ops, rs, h with
      | [op], [r], h =>
        replace h : (if behindInMarks op r then none else match evP g n sc ρ l, evP g n sc ρ r with | some a, some b => cmpP op a b | _, _ => none) = some b := h
        split at h
        · first | exact no_some h | cases h
        · rename_i hm
          split at h
          · rename_i a c h1 h2
            exact .inr (.inr (.inl ⟨l, op, r, pos, a, c, rfl, by simpa using hm, h1, h2, h⟩))
          · first | exact no_some h | cases h
      | [], _, h => first | exact no_some h | cases h
      | [_], [], h => first | exact no_some h | cases h
      | [_], _ :: _ :: _, h => first | exact no_some h | cases h
      | _ :: _ :: _, _, h => first | exact no_some h | cases h
    | IfExp t a c pos => first | exact no_some h | cases h
    | _ => exact absurd rfl hp

theorem ts_step {g : Lang} {h₁ : Heap} {n : Nat} (hev : EvOk prog w g h₁ k (evP g n)) (hts : TsOk prog w g h₁ k (tsP g n)) : TsOk prog w g h₁ k (tsP g (n + 1)) := by
  intro sc ρ e b env A s h ok hI Q E hQ
  rcases tsP_cases h with ⟨x, pos, c, rfl, hc, rfl⟩ | ⟨op, vs, pos, rfl, h⟩ | ⟨l, op, r, pos, a, c, rfl, hm, h1, h2, h⟩ | ⟨hp, a, h1, h2⟩
  · rw [arm_isTrue_UnaryOp]
    exact wpAny_bind (hts sc ρ x c env A s hc ok hI _ _ fun s₁ k₁ => wpAny_pure (hQ _ k₁))
  · rw [arm_isTrue_BoolOp]
    have key : ∀ (vs : List Expr) (s' : Shared), Keeps s s' → allT (tsP g n sc ρ) op vs = some b → wpAny (model prog w) A (allTrue op vs env) Q E s' := by
      intro vs
      induction vs with
      | nil =>
        intro s' k' h
        cases h
        rw [arm_allTrue_nil]
        exact wpAny_pure (hQ _ k')
      | cons e r ih =>
        intro s' k' h
        rw [arm_allTrue_cons]
        unfold allT at h
        split at h
        · rename_i c hc
          refine wpAny_bind (hts sc ρ e c env A s' hc ok (hI.keep (keeps_ext k')) _ _ fun s₁ k₁ => ?_)
          cases op with
          | And =>
            cases c with
            | false => cases h; exact wpAny_pure (hQ _ (keeps_trans k' k₁))
            | true => exact ih s₁ (keeps_trans k' k₁) h
          | Or =>
            cases c with
            | true => cases h; exact wpAny_pure (hQ _ (keeps_trans k' k₁))
            | false => exact ih s₁ (keeps_trans k' k₁) h
        · first | exact no_some h | cases h
    exact key vs s (keeps_refl _) h
  · exact wpAny_isTrue_Compare1 (two_ok hev ok hI h1 h2 fun va vb s' ha hb k' _ => cmpP_ok ok h ha hb (wpAny_truthy_bool (hQ _ k'))) hm
  · rw [plain_isTrue hp]
    refine wpAny_bind (hev sc ρ e a env A s h1 ok hI _ _ fun v s₁ hv k₁ => ?_)
    exact wpAny_bind (wpAny_standAt (wpAny_holding (truthP_ok h2 hv fun s₂ k₂ => hQ _ (keeps_trans k₁ k₂))))

theorem ev_sound {g : Lang} {h₁ : Heap} (hA : AppOk prog w g h₁ k) (hM : MethOk prog w g h₁ k) : ∀ n, EvOk prog w g h₁ k (evP g n) ∧ TsOk prog w g h₁ k (tsP g n)
  | 0 => ⟨fun _ _ _ _ _ _ _ h => (by cases h), fun _ _ _ _ _ _ _ h => (by cases h)⟩
  | n + 1 => by
    obtain ⟨h1, h2⟩ := ev_sound hA hM n
    exact ⟨ev_step hA hM h1 h2, ts_step h1 h2⟩

end
end Mine

end

section -- Stmt1
open PySem PySem.W PyProof.Rows
namespace Mine

inductive FlowP where
  | next
  | brk
  | ret (p : PV)
deriving DecidableEq

noncomputable def FlIs (h : Heap) (f : Flow) : FlowP → Prop
  | .next => f = .next
  | .brk => f = .brk
  | .ret p => ∃ v, f = .ret v ∧ Is h v p

noncomputable def upd (ρ : Vars) (x : Str) (p : PV) : Vars := fun y => if y = x then some p else ρ y

noncomputable def Zone (d : FD) (b : Addr) : Prop := b = d.L ∨ ∃ x, d.cells.lookup x = some b
noncomputable def Keep (d : FD) (h h' : Heap) : Prop := ∀ b o, ¬ Zone d b → h.get? b = some o → h'.get? b = some o
theorem Keep.refl (d : FD) (h : Heap) : Keep d h h := fun _ _ _ e => e
theorem Keep.trans {d : FD} {a b c : Heap} (x : Keep d a b) (y : Keep d b c) : Keep d a c := fun z o hz e => y z o hz (x z o hz e)
theorem Ext.kp {d : FD} {h h' : Heap} (x : Ext h h') : Keep d h h' := fun b o _ e => x b o e

noncomputable def storable (sc : Scope) (x : Str) : Bool := sc.names.lookup x == some .local || sc.names.lookup x == some .cell

section
variable {prog : Program} {w : World} {A : Around} {k : Nat} {s : Shared}

theorem store_ok {d : FD} {h₀ : Heap} {ρ : Vars} {x : Str} {v : Value} {p : PV} {Q : Unit → Shared → Prop} {E : Value → Shared → Prop} (hk : d.sc.kind = .function) (F : FrameOk d h₀ s.heap ρ) (hx : storable d.sc x = true) (hv : Is s.heap v p) (hp : p.stor = true)
    (hQ : ∀ h' tk, FrameOk d h₀ h' (upd ρ x p) → Keep d s.heap h' → Q () { s with heap := h', toks := tk }) : wpAny (model prog w) A (storeName d.env x v) Q E s := by
  obtain ⟨m, cm, fr, cl, hρ⟩ := F.is
  unfold storable at hx
  rw [Bool.or_eq_true] at hx
  rcases hx with hx | hx
  · have hx := beq_iff_eq.mp hx
    refine wpAny_storeName_local (env := d.env) hx fr.ns (fun h' hn hs => hQ h' _ ⟨_, _, fr.set hn hs, cl.sameBut hs (Nat.le_refl _), ?_⟩ ?_) ?_
    · intro y q e
      have es := extS_but fr.ns hs
      unfold upd at e
      split at e
      · rename_i hy
        cases e
        subst hy
        exact ⟨hp, .inl ⟨hx, v, by simp, hv.keepS es hp⟩⟩
      · rename_i hy
        obtain ⟨h1, ⟨h2, u, h3, h4⟩ | ⟨h2, u, h3, h4⟩⟩ := hρ y q e
        · exact ⟨h1, .inl ⟨h2, u, by simp [hy, h3], h4.keepS es h1⟩⟩
        · exact ⟨h1, .inr ⟨h2, u, h3, h4.keepS es h1⟩⟩
    · intro b o hz e
      exact hs.extBut b o (fun hb => hz (.inl hb)) e
    · show (d.sc.kind == .class || (d.sc.kind == .module && _)) = false
      rw [hk]; rfl
  · have hx := beq_iff_eq.mp hx
    obtain ⟨c, hc⟩ := cells_lookup d.sc.names (d.L + 1) [] hx
    have hc' : d.cells.lookup x = some c := hc
    have hLc : d.L < c := cl.above x c (mem_of_lookup hc')
    refine wpAny_storeName_cell (env := d.env) hk hx hc (cl.cell x c hc') fun h' hv' hs => hQ h' s.toks ⟨m, fun y => if y = x then some v else cm y, ?_, ?_, ?_⟩ ?_
    · exact ⟨fr.ns.sameBut hs (Nat.ne_of_lt hLc), fun b o e => (hs.2 b (Nat.ne_of_lt (Nat.lt_trans (Nat.lt_of_lt_of_le (Heap.lt_size e) fr.above) hLc))).trans (fr.keep b o e), fr.above⟩
    · refine ⟨fun n c' e => ?_, cl.apart, cl.above⟩
      by_cases hn : n = x
      · subst hn; rw [hc'] at e; cases e; simpa using hv'
      · have hcc : c' ≠ c := fun q => hn (name_of_addr cl.apart (mem_of_lookup e) (q ▸ mem_of_lookup hc'))
        simpa [hn] using (cl.cell n c' e).sameBut hs hcc
    · have es : ExtS s.heap h' := fun b o xs n e hd => by
        by_cases hb : b = c
        · subst hb
          obtain ⟨o', ho, hd'⟩ := cl.cell x b hc'
          rw [e] at ho
          cases ho
          rw [hd] at hd'
          cases hd'
        · exact hs.extBut b o hb e
      intro y q e
      unfold upd at e
      split at e
      · rename_i hy
        cases e
        subst hy
        exact ⟨hp, .inr ⟨hx, v, by simp, hv.keepS es hp⟩⟩
      · rename_i hy
        obtain ⟨h1, ⟨h2, u, h3, h4⟩ | ⟨h2, u, h3, h4⟩⟩ := hρ y q e
        · exact ⟨h1, .inl ⟨h2, u, h3, h4.keepS es h1⟩⟩
        · exact ⟨h1, .inr ⟨h2, u, by simp [hy, h3], h4.keepS es h1⟩⟩
    · intro b o hz e
      exact hs.extBut b o (fun hb => hz (.inr ⟨x, hb ▸ hc'⟩)) e

end
end Mine

end

section -- Stmt2
open PySem PySem.W PyProof.Rows
namespace Mine

noncomputable def evS (g : Lang) (sc : Scope) (ρ : Vars) (e : Expr) : Option PV := evP g 40 (some sc) (vis sc g.γ ρ) e
noncomputable def tsS (g : Lang) (sc : Scope) (ρ : Vars) (e : Expr) : Option Bool := tsP g 40 (some sc) (vis sc g.γ ρ) e

noncomputable def isCall : Expr → Bool
  | .Call .. => true
  | _ => false

noncomputable def bindAll (sc : Scope) : List Expr → List AV → Vars → Option Vars
  | [], [], ρ => some ρ
  | .Name x _ :: es, a :: l, ρ => if storable sc x then bindAll sc es l (upd ρ x (.atom a)) else none
  | _, _, _ => none

abbrev Post := FlowP → Vars → Prop

noncomputable def augP (op : Operator) (a b : Int) : Option Int := match op with
  | .Add => some (a + b)
  | .Sub => some (a - b)
  | _ => none

noncomputable def forR (W : Vars → Option (FlowP × Vars)) (x : Str) (after : Vars → Option (FlowP × Vars)) : List Nat → Vars → Option (FlowP × Vars)
  | [], ρ => after ρ
  | i :: r, ρ => match W (upd ρ x (.atom (.int (i : Int)))) with
    | some (.next, ρ') => forR W x after r ρ'
    | some (.brk, ρ') => after ρ'
    | some (.ret p, ρ') => some (.ret p, ρ')
    | none => none

/-- the executable form of wpB -/
noncomputable def runB (g : Lang) (sc : Scope) : Nat → List Stmt → Vars → Option (FlowP × Vars)
  | 0, _, _ => none
  | n + 1, ss, ρ => match ss with
    | [] => some (.next, ρ)
    | st :: rest => match st with
      | .Assign ts e _ => match ts with
        | [.Name x _] => match evS g sc ρ e with
          | some p => if (p.stor && storable sc x) = true then runB g sc n rest (upd ρ x p) else none
          | none => none
        | [.Tuple es _ _] => match evS g sc ρ e with
          | some (.tup l) => if isCall e = true then match bindAll sc es l ρ with
            | some ρ' => runB g sc n rest ρ'
            | none => none
            else none
          | _ => none
        | _ => none
      | .AugAssign t op e _ => match t with
        | .Name x _ => match vis sc g.γ ρ x, evS g sc ρ e with
          | some (.atom (.int a)), some (.atom (.int b)) => match augP op a b with
            | some r => if storable sc x = true then runB g sc n rest (upd ρ x (.atom (.int r))) else none
            | none => none
          | _, _ => none
        | _ => none
      | .If t b o _ => match tsS g sc ρ t with
        | some c => match runB g sc n (if c then b else o) ρ with
          | some (.next, ρ') => runB g sc n rest ρ'
          | some (.brk, ρ') => some (.brk, ρ')
          | some (.ret p, ρ') => some (.ret p, ρ')
          | none => none
        | none => none
      | .While t b oe wp => match oe with
        | [] => match tsS g sc ρ t with
          | some true => match runB g sc n b ρ with
            | some (.next, ρ') => runB g sc n (.While t b [] wp :: rest) ρ'
            | some (.brk, ρ') => runB g sc n rest ρ'
            | some (.ret p, ρ') => some (.ret p, ρ')
            | none => none
          | some false => runB g sc n rest ρ
          | none => none
        | _ => none
      | .For t it b oe _ => match t with
        | .Name x _ => match oe with
          | [] => match evS g sc ρ it with
            | some (.range m) => if (decide (m ≤ 1000) && storable sc x) = true then forR (runB g sc n b) x (fun ρ' => runB g sc n rest ρ') (List.range m) ρ else none
            | _ => none
          | _ => none
        | _ => none
      | .Return v _ => match v with
        | some e => match evS g sc ρ e with
          | some p => some (.ret p, ρ)
          | none => none
        | none => none
      | .Break _ => some (.brk, ρ)
      | .Pass _ => runB g sc n rest ρ
      | _ => none
end Mine

end

section -- Stmt3
open PySem PySem.W PyProof.Rows
namespace Mine

noncomputable def Runs (prog : Program) (w : World) (k : Nat) (d : FD) (s₀ : Shared) (ρ : Vars) (ss : List Stmt) (P : Post) : Prop :=
  ∀ (A : Around) (h : Heap) (tk : Nat) (Q : Flow → Shared → Prop) (E : Value → Shared → Prop), Ok k A → FrameOk d s₀.heap h ρ →
    (∀ f h' tk' fp ρ', FlIs h' f fp → FrameOk d s₀.heap h' ρ' → Keep d h h' → P fp ρ' → Q f { s₀ with heap := h', toks := tk' }) →
    wpAny (model prog w) A (execs ss d.env) Q E { s₀ with heap := h, toks := tk }

structure Host (prog : Program) (w : World) (g : Lang) (h₁ : Heap) (k : Nat) (d : FD) (s₀ : Shared) : Prop where
  app : AppOk prog w g h₁ k
  meth : MethOk prog w g h₁ k
  kind : d.sc.kind = .function
  base : Ext h₁ s₀.heap
  gl : Gl s₀.heap g.γ

section
variable {prog : Program} {w : World} {A : Around} {k : Nat} {s₀ : Shared} {g : Lang} {h₁ : Heap} {d : FD}

theorem FrameOk.ext {h₀ h : Heap} {ρ : Vars} (F : FrameOk d h₀ h ρ) : Ext h₀ h := by
  obtain ⟨m, cm, fr, _⟩ := F.is
  exact fr.keep

theorem host_inv (H : Host prog w g h₁ k d s₀) {h : Heap} {ρ : Vars} (F : FrameOk d s₀.heap h ρ) : Inv prog w g h₁ (some d.sc) (vis d.sc g.γ ρ) d.env h :=
  ⟨H.base.trans F.ext, sees_frame H.kind F H.gl, fun osc e => by cases e; exact ⟨d, s₀.heap, ρ, rfl, rfl, H.kind, F, H.gl, rfl⟩⟩

theorem evS_ok (H : Host prog w g h₁ k d s₀) {h : Heap} {tk : Nat} {ρ : Vars} {e : Expr} {p : PV} (ok : Ok k A) (F : FrameOk d s₀.heap h ρ) (he : evS g d.sc ρ e = some p) {Q : Value → Shared → Prop} {E : Value → Shared → Prop}
    (hQ : ∀ v h' tk', Is h' v p → Ext h h' → Q v { s₀ with heap := h', toks := tk' }) : wpAny (model prog w) A (eval e d.env) Q E { s₀ with heap := h, toks := tk } :=
  (ev_sound H.app H.meth 40).1 _ _ e p d.env A _ he ok (host_inv H F) _ _ fun v s' hv k' => by
    obtain ⟨h', tk', rfl, kk⟩ := k'
    exact hQ v h' tk' hv kk

theorem tsS_ok (H : Host prog w g h₁ k d s₀) {h : Heap} {tk : Nat} {ρ : Vars} {e : Expr} {b : Bool} (ok : Ok k A) (F : FrameOk d s₀.heap h ρ) (he : tsS g d.sc ρ e = some b) {Q : Bool → Shared → Prop} {E : Value → Shared → Prop}
    (hQ : ∀ h' tk', Ext h h' → Q b { s₀ with heap := h', toks := tk' }) : wpAny (model prog w) A (isTrue e d.env (eval e d.env)) Q E { s₀ with heap := h, toks := tk } :=
  (ev_sound H.app H.meth 40).2 _ _ e b d.env A _ he ok (host_inv H F) _ _ fun s' k' => by
    obtain ⟨h', tk', rfl, kk⟩ := k'
    exact hQ h' tk' kk

theorem evP_comp {n : Nat} {osc : Scope} {ρ : Vars} {elt : Expr} {gens : List Comprehension} {cs : Scope} {pos : Pos} {p : PV} (h : evP g (n + 1) (some osc) ρ (.ListComp elt gens cs pos) = some p) :
    ∃ target iter ifs src items out, gens = [⟨target, iter, ifs, 0⟩] ∧ scopeOk osc cs = true ∧ evP g n (some osc) ρ iter = some src ∧ itemsP src = some items ∧
      compP (eltF (evP g n none) (tsP g n none) cs g.γ ρ target elt ifs) items = some out ∧ packP (isTuple elt) out = some p := by
  have key : ∀ target iter ifs, evP g (n + 1) (some osc) ρ (.ListComp elt [⟨target, iter, ifs, 0⟩] cs pos) = some p → scopeOk osc cs = true ∧ ∃ src items out, evP g n (some osc) ρ iter = some src ∧ itemsP src = some items ∧ compP (eltF (evP g n none) (tsP g n none) cs g.γ ρ target elt ifs) items = some out ∧ packP (isTuple elt) out = some p := by
    intro target iter ifs h
    replace h : (if scopeOk osc cs then (match evP g n (some osc) ρ iter with | some src => (match itemsP src with | some items => (match compP (eltF (evP g n none) (tsP g n none) cs g.γ ρ target elt ifs) items with | some out => packP (isTuple elt) out | none => none) | none => none) | none => none) else none) = some p := h
    split at h
    · rename_i hok
      split at h
      · rename_i src hsrc
        split at h
        · rename_i items hit
          split at h
          · rename_i out hout
            exact ⟨hok, src, items, out, hsrc, hit, hout, h⟩
          · first | exact no_some h | cases h
        · first | exact no_some h | cases h
      · first | exact no_some h | cases h
    · first | exact no_some h | cases h
  have shape : ∃ target iter ifs, gens = [⟨target, iter, ifs, 0⟩] := by
    cases gens with
    | nil => first | exact no_some h | cases h
    | cons g0 gs =>
      obtain ⟨target, iter, ifs, ia⟩ := g0
      cases gs with
      | cons _ _ =>
        cases ia with
        | negSucc m => first | exact no_some h | cases h
        | ofNat m => cases m <;> exact no_some h
      | nil =>
        cases ia with
        | negSucc m => first | exact no_some h | cases h
        | ofNat m =>
          cases m with
          | succ m => first | exact no_some h | cases h
          | zero => exact ⟨target, iter, ifs, rfl⟩
  obtain ⟨target, iter, ifs, rfl⟩ := shape
  obtain ⟨hok, src, items, out, a, b, c, dd⟩ := key target iter ifs h
  exact ⟨target, iter, ifs, src, items, out, rfl, hok, a, b, c, dd⟩

theorem extS_extBut {h h' : Heap} {C : Addr} {m : Str → Option Value} (hn : h.Ns C m) (hs : ∀ b o, b ≠ C → h.get? b = some o → h'.get? b = some o) : ExtS h h' := fun b o xs n e hd => by
  by_cases hb : b = C
  · subst hb
    obtain ⟨o', es, ep, ho, hd', _⟩ := hn
    rw [e] at ho
    cases ho
    rw [hd] at hd'
    cases hd'
  · exact hs b o hb e

theorem assign_comp_ok (H : Host prog w g h₁ k d s₀) {h : Heap} {tk : Nat} {ρ : Vars} {x : Str} {px pos spos : Pos} {elt : Expr} {gens : List Comprehension} {cs : Scope} {p : PV} (ok : Ok k A) (F : FrameOk d s₀.heap h ρ) (hst : p.stor = true) (hx : d.sc.names.lookup x = some .local)
    (hsw : swapsWith (.ListComp elt gens cs pos) (some (.Name x px)) spos.line d.env = pure true) (he : evS g d.sc ρ (.ListComp elt gens cs pos) = some p) {Q : Flow → Shared → Prop} {E : Value → Shared → Prop}
    (hQ : ∀ D h' tk', FrameOk d s₀.heap h' (upd ρ x p) → Keep d h h' → Is h' (.ref D) p → (∃ ys, h'.PlainList D ys) → h.get? D = none → (∃ m, h'.Ns d.L m ∧ m x = some (.ref D)) → (∀ h4 p', p'.stor = true → Is h4 (.ref D) p' → (∀ b o, b ≠ D → h'.get? b = some o → h4.get? b = some o) → FrameOk d s₀.heap h4 (upd ρ x p')) → Q .next { s₀ with heap := h', toks := tk' }) : wpAny (model prog w) A (exec (.Assign [.Name x px] (.ListComp elt gens cs pos) spos) d.env) Q E { s₀ with heap := h, toks := tk } := by
  obtain ⟨target, iter, ifs, src, items, out, rfl, hok, hsrc, hit, hout, hpk⟩ := evP_comp (n := 39) he
  have hev := ev_sound H.app H.meth 39
  refine comp_assign (p := p) hsw (scopeOk_closure hok) (scopeOk_cell hok) (scopeOk_kind hok) (scopeOk_local hok) (notSet hsrc _) hx (by
    show (d.sc.kind == .class || (d.sc.kind == .module && _)) = false
    rw [H.kind]; rfl) ?_
  refine hev.1 _ _ iter src d.env A _ hsrc ok (host_inv H F) _ _ fun xv s₁ hxv k₁ => ?_
  obtain ⟨hs1, tk1, rfl, kk⟩ := k₁
  have F1 := F.keep kk
  obtain ⟨m, cm, fr, cl, hρ⟩ := F1.is
  refine ⟨items.length, itsOf items, _, _, _, m, iters_of ok hit hxv, turn_ok hev.1 hev.2 ok (items_stor hit) H.kind hok F1 H.gl (H.base.trans F1.ext) hout, ?_, fr.ns, fun D h' tk' hD hpl hsz hn' hk' => ?_⟩
  · rw [compP_out hout]
    exact packP_ok hpk
  · have hL1 : d.L < hs1.objs.size := fr.ns.lt
    have hLD : d.L ≠ D := Nat.ne_of_lt (Nat.lt_of_lt_of_le hL1 hsz)
    have key : ∀ h4 p', PV.stor p' = true → Is h4 (.ref D) p' → (∀ b o, b ≠ D → h'.get? b = some o → h4.get? b = some o) → FrameOk d s₀.heap h4 (upd ρ x p') := fun h4 p' hst' hD' hk4 => by
      have up : ∀ b o, b ≠ d.L → hs1.get? b = some o → h4.get? b = some o := fun b o hb e => hk4 b o (Nat.ne_of_lt (Nat.lt_of_lt_of_le (Heap.lt_size e) hsz)) (hk' b o hb e)
      have es := extS_extBut fr.ns up
      refine ⟨_, cm, ⟨hn'.at' fun o e => hk4 _ o hLD e, fun b o e => up b o (Nat.ne_of_lt (Nat.lt_of_lt_of_le (Heap.lt_size e) fr.above)) (fr.keep b o e), fr.above⟩, cl.extBut (b := d.L) (fun a o ha e => up a o ha e) (Nat.le_refl _), ?_⟩
      intro y q e
      unfold upd at e
      split at e
      · rename_i hy
        cases e
        subst hy
        exact ⟨hst', .inl ⟨hx, .ref D, by simp, hD'⟩⟩
      · rename_i hy
        obtain ⟨h1, ⟨h2, u, h3, h4⟩ | ⟨h2, u, h3, h4⟩⟩ := hρ y q e
        · exact ⟨h1, .inl ⟨h2, u, by simp [hy, h3], h4.keepS es h1⟩⟩
        · exact ⟨h1, .inr ⟨h2, u, h3, h4.keepS es h1⟩⟩
    refine hQ D h' tk' (key h' p hst hD fun _ _ _ e => e) ?_ hD hpl ?_ ⟨_, hn', by simp⟩ key
    · exact fun b o hz e => hk' b o (fun hb => hz (.inl hb)) (kk b o e)
    · cases e : h.get? D with
      | none => rfl
      | some o => exact absurd (Heap.lt_size (kk D o e)) (Nat.not_lt.mpr hsz)

noncomputable def swapB (value : Expr) (x : Str) (px : Pos) (d : FD) : Bool := match value with
  | .ListComp _ _ s _ => d.sc.names.lookup x == some .local && px.line == value.pos.line && !(s.names.any fun y => y.1 == x && (y.2 == .local || y.2 == .cell))
  | _ => false

theorem swaps_eq {n : Nat} {sc : Option Scope} {ρ : Vars} {value : Expr} {p : PV} {x : Str} {px : Pos} {l : Nat} (hk : d.sc.kind = .function) (he : evP g n sc ρ value = some p) :
    swapsWith value (some (.Name x px)) l d.env = pure (swapB value x px d) := by
  have hb : d.env.blockKind = .function := by
    unfold Env.blockKind
    show (if d.sc.kind.isAnnotationScope then _ else d.sc.kind) = _
    rw [hk]; rfl
  cases n with
  | zero => first | exact no_some he | cases he
  | succ n =>
    cases value with
    | ListComp elt gens cs pos =>
      show (pure (d.env.blockKind == .function && d.sc.names.lookup x == some .local && px.line == pos.line && !(cs.names.any fun y => y.1 == x && (y.2 == .local || y.2 == .cell))) : Sem Bool) = _
      rw [hb]
      rfl
    | SetComp => first | exact no_some he | cases he
    | DictComp => first | exact no_some he | cases he
    | _ => rfl

end
end Mine

end

section -- Stmt4
open PySem PySem.W PyProof.Rows
namespace Mine

section
variable {prog : Program} {w : World} {A : Around} {k : Nat} {s₀ : Shared} {g : Lang} {h₁ : Heap} {d : FD}

theorem assign_ok (H : Host prog w g h₁ k d s₀) {h : Heap} {tk : Nat} {ρ : Vars} {x : Str} {px spos : Pos} {e : Expr} {p : PV} (ok : Ok k A) (F : FrameOk d s₀.heap h ρ) (hst : p.stor = true) (hx : storable d.sc x = true) (he : evS g d.sc ρ e = some p)
    {Q : Flow → Shared → Prop} {E : Value → Shared → Prop} (hQ : ∀ h' tk', FrameOk d s₀.heap h' (upd ρ x p) → Keep d h h' → Q .next { s₀ with heap := h', toks := tk' }) :
    wpAny (model prog w) A (exec (.Assign [.Name x px] e spos) d.env) Q E { s₀ with heap := h, toks := tk } := by
  have hsw := swaps_eq (d := d) (x := x) (px := px) (l := spos.line) H.kind he
  cases hb : swapB e x px d with
  | false =>
    rw [hb] at hsw
    refine wpAny_Assign_Name ?_ hsw
    refine evS_ok H ok F he fun v h' tk' hv hx' => ?_
    refine store_ok (s := { s₀ with heap := h', toks := tk' }) H.kind (F.keep hx') hx hv hst fun h'' tk'' F' K' => hQ h'' tk'' F' (hx'.kp.trans K')
  | true =>
    rw [hb] at hsw
    cases e with
    | ListComp elt gens cs pos =>
      unfold swapB at hb
      simp only [Bool.and_eq_true] at hb
      exact assign_comp_ok H ok F hst (beq_iff_eq.mp hb.1.1) hsw he fun D h' tk' F' K' _ _ _ _ _ => hQ h' tk' F' K'
    | _ => first | exact no_some hb | cases hb

theorem bindAll_cons {sc : Scope} {e : Expr} {es : List Expr} {l : List AV} {ρ ρ' : Vars} (h : bindAll sc (e :: es) l ρ = some ρ') : ∃ x px a l', e = .Name x px ∧ l = a :: l' ∧ storable sc x = true ∧ bindAll sc es l' (upd ρ x (.atom a)) = some ρ' := by
  have shape : ∃ x px a l', e = .Name x px ∧ l = a :: l' := by
    cases l with
    | nil => cases e <;> exact no_some h
    | cons a l' => cases e <;> first | exact ⟨_, _, _, _, rfl, rfl⟩ | exact no_some h
  obtain ⟨x, px, a, l', rfl, rfl⟩ := shape
  refine ⟨x, px, a, l', rfl, rfl, ?_⟩
  have e : bindAll sc (.Name x px :: es) (a :: l') ρ = if storable sc x then bindAll sc es l' (upd ρ x (.atom a)) else none := rfl
  rw [e] at h
  by_cases hs : storable sc x = true
  · rw [if_pos hs] at h; exact ⟨hs, h⟩
  · rw [if_neg hs] at h; cases h
theorem bindAll_nil {sc : Scope} {l : List AV} {ρ ρ' : Vars} (h : bindAll sc [] l ρ = some ρ') : l = [] ∧ ρ' = ρ := by
  cases l with
  | nil => cases h; exact ⟨rfl, rfl⟩
  | cons _ _ => first | exact no_some h | cases h

theorem bindAll_ok (H : Host prog w g h₁ k d s₀) (es : List Expr) : ∀ (l : List AV) (vs : List Value) (ρ ρ' : Vars) (h : Heap) (tk : Nat) (Q : Unit → Shared → Prop) (E : Value → Shared → Prop), bindAll d.sc es l ρ = some ρ' → Paired AIs vs l → FrameOk d s₀.heap h ρ →
    (∀ h' tk', FrameOk d s₀.heap h' ρ' → Keep d h h' → Q () { s₀ with heap := h', toks := tk' }) → wpAny (model prog w) A (assignInOrder ((assignEach es d.env).map (·.2)) vs) Q E { s₀ with heap := h, toks := tk } := by
  induction es with
  | nil =>
    intro l vs ρ ρ' h tk Q E hb hp F hQ
    obtain ⟨rfl, rfl⟩ := bindAll_nil hb
    cases hp
    exact wpAny_pure (hQ h tk F (Keep.refl _ _))
  | cons e es ih =>
    intro l vs ρ ρ' h tk Q E hb hp F hQ
    obtain ⟨x, px, a, l', rfl, rfl, hx, hb⟩ := bindAll_cons hb
    cases hp with
    | cons hv ht =>
      rename_i v vs
      show wpAny _ _ (assignInOrder (PySem.assign (.Name x px) d.env :: (assignEach es d.env).map (·.2)) (v :: vs)) _ _ _
      unfold assignInOrder
      refine wpAny_bind (wpAny_holding (wpAny_assign_Name ?_))
      refine store_ok (s := { s₀ with heap := h, toks := tk }) (p := .atom a) H.kind F hx hv rfl fun h' tk' F' K' => ?_
      exact ih l' vs _ ρ' h' tk' Q E hb ht F' fun h'' tk'' F'' K'' => hQ h'' tk'' F'' (K'.trans K'')

theorem bindAll_len {sc : Scope} (es : List Expr) : ∀ (l : List AV) (ρ ρ' : Vars), bindAll sc es l ρ = some ρ' → ∀ env, (assignEach es env).length = l.length ∧ (assignEach es env).findIdx? (·.1) = none := by
  induction es with
  | nil =>
    intro l ρ ρ' hb env
    obtain ⟨rfl, rfl⟩ := bindAll_nil hb
    exact ⟨rfl, rfl⟩
  | cons e es ih =>
    intro l ρ ρ' hb env
    obtain ⟨x, px, a, l', rfl, rfl, hx, hb⟩ := bindAll_cons hb
    obtain ⟨h1, h2⟩ := ih l' _ _ hb env
    refine ⟨?_, ?_⟩
    · show (assignEach es env).length + 1 = l'.length + 1
      rw [h1]
    · show List.findIdx? (·.1) ((false, PySem.assign (.Name x px) env) :: assignEach es env) = none
      rw [List.findIdx?_cons]
      simp [h2]

end
end Mine

end

section -- Stmt5
open PySem PySem.W PyProof.Rows
namespace Mine

section
variable {prog : Program} {w : World} {A : Around} {k : Nat} {s₀ : Shared} {g : Lang} {h₁ : Heap} {d : FD}

theorem FrameOk.keepBut {h₀ h h' : Heap} {ρ : Vars} {I : Addr} (F : FrameOk d h₀ h ρ) (hI : ∃ x y z, IsRangeIter h I x y z) (hz : ¬ Zone d I) (hI0 : h₀.objs.size ≤ I) (hk : ∀ b o, b ≠ I → h.get? b = some o → h'.get? b = some o) : FrameOk d h₀ h' ρ := by
  obtain ⟨m, cm, fr, cl, hρ⟩ := F.is
  obtain ⟨x, y, z, hI⟩ := hI
  have es : ExtS h h' := fun b o xs n e hd => by
    by_cases hb : b = I
    · subst hb
      rw [hI] at e
      cases e
      cases hd
    · exact hk b o hb e
  refine ⟨m, cm, ⟨fr.ns.at' fun o e => hk _ o (fun hb => hz (.inl hb.symm)) e, fun b o e => hk b o (Nat.ne_of_lt (Nat.lt_of_lt_of_le (Heap.lt_size e) hI0)) (fr.keep b o e), fr.above⟩, ⟨fun n c e => ?_, cl.apart, cl.above⟩, ?_⟩
  · obtain ⟨o, ho, hd⟩ := cl.cell n c e
    exact ⟨o, hk c o (fun hb => hz (.inr ⟨n, hb ▸ e⟩)) ho, hd⟩
  · intro x p e
    obtain ⟨h1, ⟨h2, u, h3, h4⟩ | ⟨h2, u, h3, h4⟩⟩ := hρ x p e
    · exact ⟨h1, .inl ⟨h2, u, h3, h4.keepS es h1⟩⟩
    · exact ⟨h1, .inr ⟨h2, u, h3, h4.keepS es h1⟩⟩

theorem zone_alive {h₀ h : Heap} {ρ : Vars} {b : Addr} (F : FrameOk d h₀ h ρ) (hz : Zone d b) : b < h.objs.size := by
  obtain ⟨m, cm, fr, cl, hρ⟩ := F.is
  rcases hz with rfl | ⟨x, hx⟩
  · exact fr.ns.lt
  · obtain ⟨o, ho, _⟩ := cl.cell x b hx
    exact Heap.lt_size ho
end

noncomputable def Sub (ρ₀ ρ : Vars) : Prop := ∀ x p, ρ₀ x = some p → ρ x = some p
theorem Sub.refl (ρ : Vars) : Sub ρ ρ := fun _ _ e => e
theorem Sub.trans {a b c : Vars} (x : Sub a b) (y : Sub b c) : Sub a c := fun n p e => y n p (x n p e)

noncomputable def ofL (l : List (Str × PV)) : Vars := fun x => l.lookup x

theorem mem_of_lookupL {x : Str} {p : PV} : ∀ {l : List (Str × PV)}, l.lookup x = some p → (x, p) ∈ l
  | (n, v) :: r, h => by
    rw [List.lookup_cons] at h
    cases hb : x == n with
    | true => rw [hb] at h; cases h; rw [beq_iff_eq.mp hb]; exact List.mem_cons_self
    | false => rw [hb] at h; exact List.mem_cons_of_mem _ (mem_of_lookupL h)

theorem upd_ofL (l : List (Str × PV)) (x : Str) (p : PV) : upd (ofL l) x p = ofL ((x, p) :: l) := by
  funext y
  unfold upd ofL
  rw [List.lookup_cons]
  by_cases h : y = x
  · rw [if_pos h, beq_iff_eq.mpr h]
  · rw [if_neg h, beq_eq_false_iff_ne.mpr h]

theorem sub_ofL {l : List (Str × PV)} {ρ : Vars} (h : ∀ y ∈ l, ρ y.1 = some y.2) : Sub (ofL l) ρ := fun _ _ e => h _ (mem_of_lookupL e)

theorem sub_map {l : List (Str × PV)} {ρ : Vars} (h : l.map (fun y => ρ y.1) = l.map (fun y => some y.2)) : Sub (ofL l) ρ := sub_ofL (List.map_inj_left.mp h)

theorem FrameOk.weaken {d : FD} {h₀ h : Heap} {ρ₀ ρ : Vars} (F : FrameOk d h₀ h ρ) (s : Sub ρ₀ ρ) : FrameOk d h₀ h ρ₀ := by
  obtain ⟨m, cm, fr, cl, hv⟩ := F.is
  exact ⟨m, cm, fr, cl, fun x p e => hv x p (s x p e)⟩

noncomputable def pxOf : Stmt → Pos
  | .Assign [.Name _ px] _ _ => px
  | .For (.Name _ px) _ _ _ _ => px
  | _ => ⟨0, 0, 0, 0⟩
noncomputable def posSt : Stmt → Pos
  | .Assign _ _ p => p
  | .Expr _ p => p
  | .If _ _ _ p => p
  | .For _ _ _ _ p => p
  | .While _ _ _ p => p
  | .Return _ p => p
  | .Break p => p
  | _ => ⟨0, 0, 0, 0⟩

theorem execs_append {env : Env} : ∀ (a b : List Stmt), execs (a ++ b) env = (execs a env >>= fun f => match f with | .next => execs b env | f => pure f)
  | [], b => by
    rw [List.nil_append]; rfl
  | st :: a, b => by
    rw [List.cons_append, execs_cons, execs_cons, bind_assoc]
    congr 1
    funext f
    cases f with
    | next => exact execs_append a b
    | _ => exact (pure_bind _ _).symm

section
variable {prog : Program} {w : World} {k : Nat} {s₀ : Shared} {g : Lang} {h₁ : Heap} {d : FD}

theorem Runs.weaken {ρ₀ ρ : Vars} {ss : List Stmt} {P : Post} (s : Sub ρ₀ ρ) (h : Runs prog w k d s₀ ρ₀ ss P) : Runs prog w k d s₀ ρ ss P :=
  fun A h' tk Q E ok F hQ => h A h' tk Q E ok (F.weaken s) hQ

theorem Runs.mono {ρ : Vars} {ss : List Stmt} {P P' : Post} (h : Runs prog w k d s₀ ρ ss P) (hP : ∀ f r, P f r → P' f r) : Runs prog w k d s₀ ρ ss P' :=
  fun A h' tk Q E ok F hQ => h A h' tk Q E ok F fun f h2 tk2 fp ρ2 hf F2 K2 hp => hQ f h2 tk2 fp ρ2 hf F2 K2 (hP _ _ hp)

theorem Runs.nil {ρ : Vars} {P : Post} (h : P .next ρ) : Runs prog w k d s₀ ρ [] P :=
  fun A h' tk Q E ok F hQ => wpAny_execs_nil (hQ .next h' tk .next ρ rfl F (Keep.refl _ _) h)

theorem Runs.append {ρ : Vars} {a b : List Stmt} {P1 P : Post} (h1 : Runs prog w k d s₀ ρ a P1) (h2 : ∀ ρ', P1 .next ρ' → Runs prog w k d s₀ ρ' b P) (h3 : ∀ ρ', P1 .brk ρ' → P .brk ρ') (h4 : ∀ p ρ', P1 (.ret p) ρ' → P (.ret p) ρ') :
    Runs prog w k d s₀ ρ (a ++ b) P := by
  intro A h tk Q E ok F hQ
  rw [execs_append]
  refine wpAny_bind (h1 A h tk _ E ok F fun f h' tk' fp ρ' hf F' K' hp => ?_)
  cases fp with
  | next =>
    cases hf
    exact h2 ρ' hp A h' tk' Q E ok F' fun f h'' tk'' fp ρ'' hf F'' K'' hp' => hQ f h'' tk'' fp ρ'' hf F'' (K'.trans K'') hp'
  | brk =>
    cases hf
    exact wpAny_pure (hQ .brk h' tk' .brk ρ' rfl F' K' (h3 _ hp))
  | ret p =>
    obtain ⟨v, rfl, hv⟩ := hf
    exact wpAny_pure (hQ (.ret v) h' tk' (.ret p) ρ' ⟨v, rfl, hv⟩ F' K' (h4 _ _ hp))

theorem Runs.cons {ρ : Vars} {st : Stmt} {b : List Stmt} {P1 P : Post} (h1 : Runs prog w k d s₀ ρ [st] P1) (h2 : ∀ ρ', P1 .next ρ' → Runs prog w k d s₀ ρ' b P) (h3 : ∀ ρ', P1 .brk ρ' → P .brk ρ') (h4 : ∀ p ρ', P1 (.ret p) ρ' → P (.ret p) ρ') :
    Runs prog w k d s₀ ρ (st :: b) P := Runs.append (a := [st]) h1 h2 h3 h4

theorem Runs.assignV (H : Host prog w g h₁ k d s₀) {rest : List Stmt} {x : Str} {px sp : Pos} {e : Expr} {p : PV} {ρ : Vars} {P : Post} (he : evS g d.sc ρ e = some p) (hp : p.stor = true) (hx : storable d.sc x = true)
    (h : Runs prog w k d s₀ (upd ρ x p) rest P) : Runs prog w k d s₀ ρ (.Assign [.Name x px] e sp :: rest) P := by
  intro A h' tk Q E ok F hQ
  refine wpAny_execs_cons ?_
  refine assign_ok H ok F hp hx he fun h2 tk2 F2 K2 => ?_
  exact h A h2 tk2 Q E ok F2 fun f h3 tk3 fp ρ3 hf F3 K3 hp' => hQ f h3 tk3 fp ρ3 hf F3 (K2.trans K3) hp'

/-- one assignment, then the rest -/
theorem Runs.assign (H : Host prog w g h₁ k d s₀) {st : Stmt} {rest : List Stmt} {x : Str} {e : Expr} {p : PV} {l : List (Str × PV)} {P : Post} (hst : st = .Assign [.Name x (pxOf st)] e (posSt st)) (he : evS g d.sc (ofL l) e = some p) (hp : p.stor = true) (hx : storable d.sc x = true)
    (h : Runs prog w k d s₀ (ofL ((x, p) :: l)) rest P) : Runs prog w k d s₀ (ofL l) (st :: rest) P := by
  rw [← upd_ofL] at h
  rw [hst]
  exact Runs.assignV H he hp hx h

theorem Runs.ret (H : Host prog w g h₁ k d s₀) {st : Stmt} {rest : List Stmt} {e : Expr} {p : PV} {ρ : Vars} {P : Post} (hst : st = .Return (some e) (posSt st)) (he : evS g d.sc ρ e = some p) (h : P (.ret p) ρ) : Runs prog w k d s₀ ρ (st :: rest) P := by
  generalize posSt st = sp at hst
  subst hst
  intro A h' tk Q E ok F hQ
  refine wpAny_execs_cons ?_
  refine wpAny_Return_some (evS_ok H ok F he fun v h2 tk2 hv hx => ?_)
  exact hQ (.ret v) h2 tk2 (.ret p) ρ ⟨v, rfl, hv⟩ (F.keep hx) hx.kp h

theorem Runs.ifS (H : Host prog w g h₁ k d s₀) {st : Stmt} {t : Expr} {b o : List Stmt} {c : Bool} {ρ : Vars} {P : Post} (hst : st = .If t b o (posSt st)) (hc : tsS g d.sc ρ t = some c) (h : Runs prog w k d s₀ ρ (if c then b else o) P) : Runs prog w k d s₀ ρ [st] P := by
  generalize posSt st = sp at hst
  subst hst
  intro A h' tk Q E ok F hQ
  refine wpAny_execs_cons ?_
  refine wpAny_If (tsS_ok H ok F hc fun h2 tk2 hx => ?_)
  have key : ∀ body, Runs prog w k d s₀ ρ body P → wpAny (model prog w) A (execs body d.env) (fun f s' => match f with | .next => wpAny (model prog w) A (execs [] d.env) Q E s' | f => Q f s') E { s₀ with heap := h2, toks := tk2 } := fun body hb => by
    refine hb A h2 tk2 _ E ok (F.keep hx) fun f h3 tk3 fp ρ3 hf F3 K3 hp => ?_
    cases fp with
    | next => cases hf; exact wpAny_execs_nil (hQ .next h3 tk3 .next ρ3 rfl F3 (hx.kp.trans K3) hp)
    | brk => cases hf; exact hQ .brk h3 tk3 .brk ρ3 rfl F3 (hx.kp.trans K3) hp
    | ret p =>
      obtain ⟨v, rfl, hv⟩ := hf
      exact hQ (.ret v) h3 tk3 (.ret p) ρ3 ⟨v, rfl, hv⟩ F3 (hx.kp.trans K3) hp
  cases c with
  | true => exact key b h
  | false => exact key o h

theorem for_okI (H : Host prog w g h₁ k d s₀) {x : Str} {px : Pos} {b : List Stmt} {P : Post} {I : Nat → Vars → Prop} (hx : storable d.sc x = true) {m : Nat} {A : Around} {h h2 : Heap} {tk : Nat} {ρ : Vars} {J : Addr} {R : Result → Shared → Prop} (ok : Ok k A)
    (body : ∀ i ρ, i < m → I i ρ → Runs prog w k d s₀ (upd ρ x (.atom (.int (i : Int)))) b (fun f ρ' => match f with | .next => I (i + 1) ρ' | .brk => P .next ρ' | .ret p => P (.ret p) ρ')) (hend : ∀ ρ, I m ρ → P .next ρ)
    (F : FrameOk d s₀.heap h2 ρ) (K : Keep d h h2) (hI : IsRangeIter h2 J 0 m 1) (hz : ¬ Zone d J) (hI0 : s₀.heap.objs.size ≤ J) (hIh : h.get? J = none) (h0 : I 0 ρ)
    (hR1 : ∀ h' tk' ρ', FrameOk d s₀.heap h' ρ' → Keep d h h' → P .next ρ' → R (.ok .next) { s₀ with heap := h', toks := tk' })
    (hR2 : ∀ h' tk' v p ρ', Is h' v p → FrameOk d s₀.heap h' ρ' → Keep d h h' → P (.ret p) ρ' → R (.ok (.ret v)) { s₀ with heap := h', toks := tk' }) :
    codeAny (model prog w) A (.forLoop (.Name x px) (.ref J) b [] d.env) R { s₀ with heap := h2, toks := tk } := by
  refine codeAny_forLoop (fun j s' => ∃ (i : Nat) (h' : Heap) (tk' : Nat) (ρ' : Vars), i ≤ m ∧ j = m + 1 - i ∧ s' = { s₀ with heap := h', toks := tk' } ∧ FrameOk d s₀.heap h' ρ' ∧ Keep d h h' ∧ IsRangeIter h' J i ((m : Int) - (i : Int)) 1 ∧
    I i ρ') ?_ (m + 1) ⟨0, h2, tk, ρ, Nat.zero_le _, rfl, rfl, F, K, by simpa using hI, h0⟩
  rintro j s' ⟨i, h', tk', ρ', hi, rfl, rfl, F', K', hI', hw'⟩
  have keepI : ∀ h3, (∀ b o, b ≠ J → h'.get? b = some o → h3.get? b = some o) → Keep d h h3 := fun h3 hk b o hb e => by
    have hbI : b ≠ J := fun q => by rw [q, hIh] at e; cases e
    exact hk b o hbI (K' b o hb e)
  by_cases hlt : i < m
  · refine wpAny_pyNext_range_item hI' (by omega) fun h3 hI3 hs3 => ?_
    have F3 : FrameOk d s₀.heap h3 ρ' := F'.keepBut ⟨_, _, _, hI'⟩ hz hI0 fun b o hb e => hs3.extBut b o hb e
    refine wpAny_assign_Name ?_
    refine store_ok (s := { s₀ with heap := h3, toks := tk' + 1 }) (p := .atom (.int (i : Int))) H.kind F3 hx ⟨_, rfl⟩ rfl fun h4 tk4 F4 K4 => ?_
    refine body i ρ' hlt hw' A h4 tk4 _ _ ok F4 fun f h5 tk5 fp ρ5 hf F5 K5 hp => ?_
    have K15 : Keep d h h5 := (keepI h3 fun b o hb e => hs3.extBut b o hb e).trans (K4.trans K5)
    have hI5 : IsRangeIter h5 J ((i + 1 : Nat) : Int) ((m : Int) - ((i + 1 : Nat) : Int)) 1 := by
      have e1 : ((i + 1 : Nat) : Int) = (i : Int) + 1 := by omega
      have e2 : (m : Int) - ((i + 1 : Nat) : Int) = (m : Int) - (i : Int) - 1 := by omega
      rw [e2, e1]
      exact K5 _ _ hz (K4 _ _ hz hI3)
    cases fp with
    | next =>
      cases hf
      exact ⟨m + 1 - (i + 1), by omega, i + 1, h5, tk5, ρ5, hlt, rfl, rfl, F5, K15, hI5, hp⟩
    | brk =>
      cases hf
      exact hR1 h5 tk5 ρ5 F5 K15 hp
    | ret p =>
      obtain ⟨v, rfl, hv⟩ := hf
      exact hR2 h5 tk5 v p ρ5 hv F5 K15 hp
  · have him : i = m := by omega
    subst him
    refine wpAny_pyNext_range_end ok.hh hI' (by omega) fun h3 he3 => ?_
    have F3 : FrameOk d s₀.heap h3 ρ' := F'.keepBut ⟨_, _, _, hI'⟩ hz hI0 fun b o hb e => he3 b o hb e
    exact wpAny_execs_nil (hR1 h3 tk' ρ' F3 (keepI h3 fun b o hb e => he3 b o hb e) (hend _ hw'))

theorem Runs.forS (H : Host prog w g h₁ k d s₀) {st : Stmt} {x : Str} {it : Expr} {b : List Stmt} {m : Nat} {ρ : Vars} {P : Post} (I : Nat → Vars → Prop) (hst : st = .For (.Name x (pxOf st)) it b [] (posSt st)) (he : evS g d.sc ρ it = some (.range m)) (hm : m ≤ 1000) (hx : storable d.sc x = true)
    (h0 : I 0 ρ) (body : ∀ i ρ, i < m → I i ρ → Runs prog w k d s₀ (upd ρ x (.atom (.int (i : Int)))) b (fun f ρ' => match f with | .next => I (i + 1) ρ' | .brk => P .next ρ' | .ret p => P (.ret p) ρ')) (hend : ∀ ρ, I m ρ → P .next ρ) : Runs prog w k d s₀ ρ [st] P := by
  generalize pxOf st = px at hst
  generalize posSt st = sp at hst
  subst hst
  intro A h tk Q E ok F hQ
  refine wpAny_execs_cons ?_
  refine wpAny_For ?_ (notSet he _)
  refine evS_ok H ok F he fun v h' tk' hv hx' => ?_
  obtain ⟨T, t1, t2, t3, rfl, hr⟩ := hv
  have hsz : Builtin.Range.rangeSize 0 m 1 = (m : Int) := by
    rw [rangeSize_one]
    split <;> omega
  have F' := F.keep hx'
  have hsm : Builtin.Range.small 0 m 1 = true := small_one (by decide) (by decide) (by omega) (by omega)
  refine wpAny_pyIter_range hr hsm ?_
  rw [hsz]
  have hlow : s₀.heap.objs.size ≤ h'.objs.size := by
    obtain ⟨m', cm, fr, _⟩ := F'.is
    exact Nat.le_of_lt (Nat.lt_of_le_of_lt fr.above fr.ns.lt)
  have hz : ¬ Zone d h'.objs.size := fun z => Nat.lt_irrefl _ (zone_alive F' z)
  refine for_okI (I := I) (P := P) (h := h) H hx ok body hend (F'.keep (push_keeps { s₀ with heap := h', toks := tk' } _ |> keeps_ext)) (fun b o _ e => Heap.get?_push_of_some _ (hx' b o e)) (Heap.get?_push_size _ rfl) hz hlow ?_ h0
      (fun h3 tk3 ρ3 F3 K3 hp => wpAny_execs_nil (hQ .next h3 tk3 .next ρ3 rfl F3 K3 hp)) (fun h3 tk3 v p ρ3 hv F3 K3 hp => hQ (.ret v) h3 tk3 (.ret p) ρ3 ⟨v, rfl, hv⟩ F3 K3 hp)
  cases e : h.get? h'.objs.size with
  | none => rfl
  | some o => exact absurd (Heap.lt_size (hx' _ o e)) (Nat.lt_irrefl _)

theorem call_swaps {e : Expr} (h : isCall e = true) (elts : List Expr) (kk : Nat) (tp : Pos) (l : Nat) (env : Env) : swapsWithSole [.Tuple elts kk tp] e l env = pure false ∧ swappedStores [.Tuple elts kk tp] e env = pure none := by
  cases e <;> first | exact ⟨rfl, rfl⟩ | cases h

theorem Runs.brkV {sp : Pos} {rest : List Stmt} {ρ : Vars} {P : Post} (h : P .brk ρ) : Runs prog w k d s₀ ρ (.Break sp :: rest) P := by
  intro A h' tk Q E ok F hQ
  exact wpAny_execs_cons (wpAny_Break (hQ .brk h' tk .brk ρ rfl F (Keep.refl _ _) h))

theorem runB_asgn {sc : Scope} {n : Nat} {ts : List Expr} {e : Expr} {sp : Pos} {rest : List Stmt} {ρ : Vars} {r : FlowP × Vars} (h : runB g sc (n + 1) (.Assign ts e sp :: rest) ρ = some r) : (∃ x px, ts = [.Name x px]) ∨ ∃ es kk tp, ts = [.Tuple es kk tp] := by
  cases ts with
  | nil => first | exact no_some h | cases h
  | cons t ts =>
    cases ts with
    | nil => cases t <;> first | exact .inl ⟨_, _, rfl⟩ | exact .inr ⟨_, _, _, rfl⟩ | exact no_some h
    | cons _ _ => cases t <;> exact no_some h
theorem runB_aug {sc : Scope} {n : Nat} {t e : Expr} {op : Operator} {sp : Pos} {rest : List Stmt} {ρ : Vars} {r : FlowP × Vars} (h : runB g sc (n + 1) (.AugAssign t op e sp :: rest) ρ = some r) : ∃ x px, t = .Name x px := by
  cases t <;> first | exact ⟨_, _, rfl⟩ | exact no_some h
theorem runB_for {sc : Scope} {n : Nat} {t it : Expr} {b oe : List Stmt} {sp : Pos} {rest : List Stmt} {ρ : Vars} {r : FlowP × Vars} (h : runB g sc (n + 1) (.For t it b oe sp :: rest) ρ = some r) : (∃ x px, t = .Name x px) ∧ oe = [] := by
  have h1 : ∃ x px, t = .Name x px := by cases t <;> first | exact ⟨_, _, rfl⟩ | exact no_some h
  obtain ⟨x, px, rfl⟩ := h1
  refine ⟨⟨x, px, rfl⟩, ?_⟩
  cases oe with
  | nil => rfl
  | cons _ _ => first | exact no_some h | cases h

noncomputable def Snd (prog : Program) (w : World) (k : Nat) (g : Lang) (d : FD) (s₀ : Shared) (n : Nat) : Prop := ∀ ss ρ f ρe, runB g d.sc n ss ρ = some (f, ρe) → Runs prog w k d s₀ ρ ss (fun f' ρ' => f' = f ∧ ρ' = ρe)

theorem while_run (H : Host prog w g h₁ k d s₀) {t : Expr} {b rest : List Stmt} {wp : Pos} {f : FlowP} {ρe : Vars} (n : Nat) (hS : ∀ m, m < n → Snd prog w k g d s₀ m) {ρ : Vars} (hw : runB g d.sc n (.While t b [] wp :: rest) ρ = some (f, ρe)) :
    Runs prog w k d s₀ ρ (.While t b [] wp :: rest) (fun f' ρ' => f' = f ∧ ρ' = ρe) := by
  intro A h tk Q E ok F hQ
  refine wpAny_execs_cons ?_
  refine wpAny_While ?_
  refine codeAny_whileLoop (fun m s' => m ≤ n ∧ ∃ h' tk' ρ', s' = { s₀ with heap := h', toks := tk' } ∧ FrameOk d s₀.heap h' ρ' ∧ Keep d h h' ∧ runB g d.sc m (.While t b [] wp :: rest) ρ' = some (f, ρe)) ?_ n ⟨Nat.le_refl _, h, tk, ρ, rfl, F, Keep.refl _ _, hw⟩
  rintro m s' ⟨hm, h', tk', ρ', rfl, F', K', hw'⟩
  cases m with
  | zero => first | exact no_some hw' | cases hw'
  | succ m =>
    have out : ∀ h2 tk2 ρ2, FrameOk d s₀.heap h2 ρ2 → Keep d h h2 → runB g d.sc m rest ρ2 = some (f, ρe) → wpAny (model prog w) A (execs rest d.env) Q E { s₀ with heap := h2, toks := tk2 } := fun h2 tk2 ρ2 F2 K2 hr =>
      hS m (by omega) _ _ _ _ hr A h2 tk2 Q E ok F2 fun q h3 tk3 fp ρ3 hf F3 K3 hp => hQ q h3 tk3 fp ρ3 hf F3 (K2.trans K3) hp
    replace hw' : (match tsS g d.sc ρ' t with
          | some true => (match runB g d.sc m b ρ' with
            | some (.next, ρ') => runB g d.sc m (.While t b [] wp :: rest) ρ'
            | some (.brk, ρ') => runB g d.sc m rest ρ'
            | some (.ret p, ρ') => some (.ret p, ρ')
            | none => none)
          | some false => runB g d.sc m rest ρ'
          | none => none) = some (f, ρe) := hw'
    split at hw'
    · rename_i ht
      refine tsS_ok H ok F' ht fun h2 tk2 hx2 => ?_
      simp only [if_true]
      split at hw'
      · rename_i ρ2 e2
        refine hS m (by omega) _ _ _ _ e2 A h2 tk2 _ _ ok (F'.keep hx2) fun q h3 tk3 fp ρ3 hf F3 K3 hp => ?_
        obtain ⟨rfl, rfl⟩ := hp
        cases hf
        exact ⟨m, Nat.lt_succ_self _, by omega, h3, tk3, ρ3, rfl, F3, K'.trans (hx2.kp.trans K3), hw'⟩
      · rename_i ρ2 e2
        refine hS m (by omega) _ _ _ _ e2 A h2 tk2 _ _ ok (F'.keep hx2) fun q h3 tk3 fp ρ3 hf F3 K3 hp => ?_
        obtain ⟨rfl, rfl⟩ := hp
        cases hf
        exact out h3 tk3 ρ3 F3 (K'.trans (hx2.kp.trans K3)) hw'
      · rename_i p ρ2 e2
        cases hw'
        refine hS m (by omega) _ _ _ _ e2 A h2 tk2 _ _ ok (F'.keep hx2) fun q h3 tk3 fp ρ3 hf F3 K3 hp => ?_
        obtain ⟨rfl, rfl⟩ := hp
        obtain ⟨v, rfl, hv⟩ := hf
        exact hQ (.ret v) h3 tk3 (.ret p) ρ3 ⟨v, rfl, hv⟩ F3 (K'.trans (hx2.kp.trans K3)) ⟨rfl, rfl⟩
      · first | exact no_some hw' | cases hw'
    · rename_i ht
      refine tsS_ok H ok F' ht fun h2 tk2 hx2 => ?_
      simp only [Bool.false_eq_true, if_false]
      exact wpAny_execs_nil (out h2 tk2 ρ' (F'.keep hx2) (K'.trans hx2.kp) hw')
    · first | exact no_some hw' | cases hw'

theorem forR_drop {V : Vars → Option (FlowP × Vars)} {x : Str} {af : Vars → Option (FlowP × Vars)} {m i : Nat} {ρ : Vars} (hi : i < m) : forR V x af ((List.range m).drop i) ρ = (match V (upd ρ x (.atom (.int (i : Int)))) with
    | some (.next, ρ') => forR V x af ((List.range m).drop (i + 1)) ρ'
    | some (.brk, ρ') => af ρ'
    | some (.ret p, ρ') => some (.ret p, ρ')
    | none => none) := by
  have hd : (List.range m).drop i = i :: (List.range m).drop (i + 1) := by
    rw [List.drop_eq_getElem_cons (by simpa using hi)]
    simp
  rw [hd]
  rfl

theorem runB_step (H : Host prog w g h₁ k d s₀) (n : Nat) (hS : ∀ m, m < n + 1 → Snd prog w k g d s₀ m) : Snd prog w k g d s₀ (n + 1) := by
  intro ss ρ f ρe hw
  have hSn : Snd prog w k g d s₀ n := hS n (Nat.lt_succ_self _)
  cases ss with
  | nil =>
    cases hw
    exact Runs.nil ⟨rfl, rfl⟩
  | cons st rest =>
    cases st with
    | Assign ts e sp =>
      rcases runB_asgn hw with ⟨x, px, rfl⟩ | ⟨es, kk, tp, rfl⟩
      · replace hw : (match evS g d.sc ρ e with | some p => if (p.stor && storable d.sc x) = true then runB g d.sc n rest (upd ρ x p) else none | none => none) = some (f, ρe) := hw
        split at hw
        · rename_i p he
          split at hw
          · rename_i hc
            rw [Bool.and_eq_true] at hc
            exact Runs.assignV H he hc.1 hc.2 (hSn _ _ _ _ hw)
          · first | exact no_some hw | cases hw
        · first | exact no_some hw | cases hw
      · replace hw : (match evS g d.sc ρ e with | some (.tup l) => (if isCall e = true then (match bindAll d.sc es l ρ with | some ρ' => runB g d.sc n rest ρ' | none => none) else none) | _ => none) = some (f, ρe) := hw
        split at hw
        · rename_i l h1
          split at hw
          · rename_i h2
            split at hw
            · rename_i ρ' h3
              intro A h tk Q E ok F hQ
              refine wpAny_execs_cons ?_
              obtain ⟨s1, s2⟩ := call_swaps h2 es kk tp sp.line d.env
              refine Assign_Tuple ?_ s1 s2
              refine evS_ok H ok F h1 fun v h' tk' hv hx => ?_
              obtain ⟨T, vs, rfl, ht, hp⟩ := hv
              obtain ⟨l1, l2⟩ := bindAll_len es l ρ ρ' h3 d.env
              refine wpAny_assign_Tuple ok.hh ht (by rw [l1]; simp [hp.length]) l2 fun h'' he => ?_
              have ex : Ext h' h'' := fun b o e => he b o (Nat.ne_of_lt (Heap.lt_size e)) e
              refine bindAll_ok H es l vs ρ ρ' h'' tk' _ _ h3 hp (F.keep (hx.trans ex)) fun h3' tk3 F3 K3 => ?_
              exact hSn _ _ _ _ hw A h3' tk3 Q E ok F3 fun q h4 tk4 fp ρ4 hf F4 K4 hp4 => hQ q h4 tk4 fp ρ4 hf F4 ((hx.trans ex).kp.trans (K3.trans K4)) hp4
            · first | exact no_some hw | cases hw
          · first | exact no_some hw | cases hw
        · first | exact no_some hw | cases hw
    | AugAssign t op e sp =>
      obtain ⟨x, px, rfl⟩ := runB_aug hw
      replace hw : (match vis d.sc g.γ ρ x, evS g d.sc ρ e with | some (.atom (.int a)), some (.atom (.int b)) => (match augP op a b with | some r => (if storable d.sc x = true then runB g d.sc n rest (upd ρ x (.atom (.int r))) else none) | none => none) | _, _ => none) = some (f, ρe) := hw
      split at hw
      · rename_i a b h1 h2
        split at hw
        · rename_i r h3
          split at hw
          · rename_i h4
            intro A h tk Q E ok F hQ
            refine wpAny_execs_cons ?_
            refine wpAny_AugAssign_Name ?_
            obtain ⟨va, hva, hl⟩ := (host_inv H F).sees x _ h1
            refine hl A _ _ _ (Ext.refl _) ?_
            refine evS_ok H ok F h2 fun vb h' tk' hvb hx => ?_
            obtain ⟨ta, rfl⟩ := hva
            obtain ⟨tb, rfl⟩ := hvb
            have fin : ∀ (v : Value) (tk2 : Nat), Is h' v (.atom (.int r)) → wpAny (model prog w) A (storeName d.env x v) (fun _ s' => wpAny (model prog w) A (execs rest d.env) Q E s') E { s₀ with heap := h', toks := tk2 } := fun v tk2 hv =>
              store_ok (s := { s₀ with heap := h', toks := tk2 }) (p := .atom (.int r)) H.kind (F.keep hx) h4 hv rfl fun h'' tk'' F' K' =>
                hSn _ _ _ _ hw A h'' tk'' Q E ok F' fun q h5 tk5 fp ρ5 hf F5 K5 hp5 => hQ q h5 tk5 fp ρ5 hf F5 (hx.kp.trans (K'.trans K5)) hp5
            cases op with
            | Add => cases h3; exact PySem.P.iadd_int (fin _ _ ⟨_, rfl⟩)
            | Sub => cases h3; exact PySem.P.isub_int (fin _ _ ⟨_, rfl⟩)
            | _ => cases h3
          · first | exact no_some hw | cases hw
        · first | exact no_some hw | cases hw
      · first | exact no_some hw | cases hw
    | If t b o sp =>
      replace hw : (match tsS g d.sc ρ t with | some c => (match runB g d.sc n (if c then b else o) ρ with | some (.next, ρ') => runB g d.sc n rest ρ' | some (.brk, ρ') => some (.brk, ρ') | some (.ret p, ρ') => some (.ret p, ρ') | none => none) | none => none) = some (f, ρe) := hw
      split at hw
      · rename_i c hc
        split at hw
        · rename_i ρ' e
          exact Runs.cons (Runs.ifS H rfl hc (hSn _ _ _ _ e)) (fun ρ2 h2 => by obtain ⟨_, rfl⟩ := h2; exact hSn _ _ _ _ hw) (fun _ h2 => by cases h2.1) (fun _ _ h2 => by cases h2.1)
        · rename_i ρ' e
          cases hw
          exact Runs.cons (Runs.ifS H rfl hc (hSn _ _ _ _ e)) (fun _ h2 => by cases h2.1) (fun _ h2 => h2) (fun _ _ h2 => by cases h2.1)
        · rename_i p ρ' e
          cases hw
          exact Runs.cons (Runs.ifS H rfl hc (hSn _ _ _ _ e)) (fun _ h2 => by cases h2.1) (fun _ h2 => by cases h2.1) (fun _ _ h2 => h2)
        · first | exact no_some hw | cases hw
      · first | exact no_some hw | cases hw
    | While t b oe wp =>
      cases oe with
      | nil => exact while_run H (n + 1) hS hw
      | cons _ _ => first | exact no_some hw | cases hw
    | For t it b oe sp =>
      obtain ⟨⟨x, px, rfl⟩, rfl⟩ := runB_for hw
      replace hw : (match evS g d.sc ρ it with | some (.range m) => (if (decide (m ≤ 1000) && storable d.sc x) = true then forR (runB g d.sc n b) x (fun ρ' => runB g d.sc n rest ρ') (List.range m) ρ else none) | _ => none) = some (f, ρe) := hw
      split at hw
      · rename_i m he
        split at hw
        · rename_i hc
          rw [Bool.and_eq_true, decide_eq_true_eq] at hc
          refine Runs.cons (P1 := fun f' ρ' => match f' with | .next => runB g d.sc n rest ρ' = some (f, ρe) | .brk => False | .ret p => f = .ret p ∧ ρ' = ρe) ?_ (fun ρ2 h2 => hSn _ _ _ _ h2) (fun _ h2 => h2.elim) (fun p _ h2 => ⟨h2.1.symm, h2.2⟩)
          refine Runs.forS H (x := x) (it := it) (b := b) (m := m) (fun i ρ' => forR (runB g d.sc n b) x (fun ρ' => runB g d.sc n rest ρ') ((List.range m).drop i) ρ' = some (f, ρe)) rfl he hc.1 hc.2 hw (fun i ρ' hi hI => ?_) (fun ρ' hI => ?_)
          · rw [forR_drop hi] at hI
            split at hI
            · rename_i ρ2 e2
              exact Runs.mono (hSn _ _ _ _ e2) fun q ρ3 hq => by obtain ⟨rfl, rfl⟩ := hq; exact hI
            · rename_i ρ2 e2
              exact Runs.mono (hSn _ _ _ _ e2) fun q ρ3 hq => by obtain ⟨rfl, rfl⟩ := hq; exact hI
            · rename_i p ρ2 e2
              cases hI
              exact Runs.mono (hSn _ _ _ _ e2) fun q ρ3 hq => by obtain ⟨rfl, rfl⟩ := hq; exact ⟨rfl, rfl⟩
            · first | exact no_some hI | cases hI
          · rw [List.drop_eq_nil_of_le (by simp)] at hI
            exact hI
        · first | exact no_some hw | cases hw
      · first | exact no_some hw | cases hw
    | Return v sp =>
      cases v with
      | none => first | exact no_some hw | cases hw
      | some e =>
        replace hw : (match evS g d.sc ρ e with | some p => some (FlowP.ret p, ρ) | none => none) = some (f, ρe) := hw
        split at hw
        · rename_i p he
          cases hw
          exact Runs.ret H rfl he ⟨rfl, rfl⟩
        · first | exact no_some hw | cases hw
    | Break sp =>
      cases hw
      exact Runs.brkV ⟨rfl, rfl⟩
    | Pass sp =>
      replace hw : runB g d.sc n rest ρ = some (f, ρe) := hw
      intro A h tk Q E ok F hQ
      refine wpAny_execs_cons (wpAny_Pass ?_)
      exact hSn _ _ _ _ hw A h tk Q E ok F hQ
    | _ => first | exact no_some hw | cases hw

theorem runB_sound (H : Host prog w g h₁ k d s₀) (n : Nat) : Snd prog w k g d s₀ n := by
  induction n using Nat.strongRecOn with
  | _ n ih =>
    cases n with
    | zero => intro ss ρ f ρe hw; cases hw
    | succ n => exact runB_step H n ih
end
end Mine

end

section -- Call1
open PySem PySem.W PyProof.Rows
namespace Mine

noncomputable def argV : List (Str × PV) → Vars → Vars
  | [], ρ => ρ
  | (n, p) :: r, ρ => argV r (upd ρ n p)

theorem bind_rel {h : Heap} {kd : Str → Option NameKind} : ∀ (binds : List (Str × Value)) (bps : List (Str × PV)), Paired (KIs h) binds bps → (∀ b ∈ binds, kd b.1 = some .local) → (∀ b ∈ bps, b.2.stor = true) → ∀ (m : Str → Option Value) (ρ : Vars),
    (∀ x p, ρ x = some p → p.stor = true ∧ kd x = some .local ∧ ∃ v, m x = some v ∧ Is h v p) → ∀ x p, argV bps ρ x = some p → p.stor = true ∧ kd x = some .local ∧ ∃ v, bindL kd binds m x = some v ∧ Is h v p
  | _, _, .nil, _, _, m, ρ, hr, x, p, e => hr x p e
  | _, _, .cons (a := (n, v)) (b := (n', q)) ⟨h1, h2⟩ t, hl, hs, m, ρ, hr, x, p, e => by
    have hn : kd n = some .local := hl (n, v) List.mem_cons_self
    have h1 : n = n' := h1
    subst h1
    have h2 : Is h v q := h2
    unfold bindL
    rw [if_pos hn]
    refine bind_rel _ _ t (fun b hb => hl b (List.mem_cons_of_mem _ hb)) (fun b hb => hs b (List.mem_cons_of_mem _ hb)) _ (upd ρ n q) ?_ x p e
    intro y p' e'
    unfold upd at e'
    split at e'
    · rename_i hy
      have e' := Option.some.inj e'
      subst e'
      subst hy
      exact ⟨hs (y, q) List.mem_cons_self, hn, v, by simp, h2⟩
    · rename_i hy
      obtain ⟨a, b, u, c, d⟩ := hr y p' e'
      exact ⟨a, b, u, by simp [hy, c], d⟩

/-- a def, as far as its call goes -/
structure FnRec where
  name : Str
  params : Arguments
  body : List Stmt
  sc : Scope
  names : List Str

noncomputable def FnRec.good (f : FnRec) : Bool := f.sc.kind == .function && !f.sc.isCoroutine && !f.sc.isGenerator && (f.names.all fun x => f.sc.names.lookup x == some .local)

noncomputable def callP (g : Lang) (f : FnRec) (ps : List PV) : Option PV := if (decide (ps.length = f.names.length) && ps.all (·.stor)) = true then match runB g f.sc 400 f.body (argV (f.names.zip ps) (fun _ => none)) with
  | some (.ret p, _) => some p
  | _ => none
  else none

noncomputable def FnAt (h₁ : Heap) (a : Addr) (f : FnRec) : Prop := ∃ o pm cd doc, h₁.get? a = some o ∧ o.data = .func (Calls.docDef f.name f.params f.body f.sc pm cd doc) ∧ h₁.CodeRec cd f.name ∧
  ∀ vs : List Value, vs.length = f.names.length → bindArgs (Calls.docDef f.name f.params f.body f.sc pm cd doc) ⟨vs, []⟩ = pure (f.names.zip vs)

section
variable {prog : Program} {w : World} {k : Nat} {g : Lang} {h₁ : Heap}

theorem paired_zip {h : Heap} : ∀ (names : List Str) {vs : List Value} {ps : List PV}, Paired (Is h) vs ps → Paired (KIs h) (names.zip vs) (names.zip ps)
  | [], _, _, _ => .nil
  | _ :: _, _, _, .nil => .nil
  | _ :: ns, _, _, .cons x t => .cons ⟨rfl, x⟩ (paired_zip ns t)

/-- a def's contract, from a walk of its body -/
theorem fun_okR (hA : AppOk prog w g h₁ k) (hM : MethOk prog w g h₁ k) {a : Addr} {f : FnRec} (hf : FnAt h₁ a f) (hg : f.good = true) (hlim : h₁.NoLimit) (G : Gl h₁ g.γ) {ps : List PV} {r : PV}
    (hc : (decide (ps.length = f.names.length) && ps.all (·.stor)) = true)
    (hw : ∀ (d : FD) (s₀ : Shared), d.sc = f.sc → Host prog w g h₁ k d s₀ → Runs prog w k d s₀ (argV (f.names.zip ps) fun _ => none) f.body (fun q _ => q = .ret r)) :
    ∀ A (s : Shared) vs, Ok (k + 1) A → Ext h₁ s.heap → Paired (Is s.heap) vs ps → ∀ (Q : Value → Shared → Prop) (E : Value → Shared → Prop), (∀ v s', Is s'.heap v r → Keeps s s' → Q v s') → wpAny (model prog w) A (call (.ref a) vs []) Q E s := by
  obtain ⟨o, pm, cd, doc, ho, hd, hcd, hbind⟩ := hf
  unfold FnRec.good at hg
  simp only [Bool.and_eq_true, Bool.not_eq_true'] at hg
  obtain ⟨⟨⟨hk, hco⟩, hgen⟩, hloc⟩ := hg
  have hk := beq_iff_eq.mp hk
  rw [Bool.and_eq_true, decide_eq_true_eq] at hc
  obtain ⟨hlen, hst⟩ := hc
  intro A s vs ok hx hvs Q E hQ
  rw [List.all_eq_true] at hloc hst
  have hz : ∀ b ∈ f.names.zip vs, f.sc.names.lookup b.1 = some .local := fun b hb => beq_iff_eq.mp (hloc _ (List.of_mem_zip hb).1)
  refine wpAny_call ?_
  refine call_cells_ret (by have := ok.hd; omega) (hx _ _ ho) hd (hlim.keeps hx) (hcd.keeps hx) (hbind vs (hvs.length.trans hlen)) (fun b hb => .inl (hz b hb)) (fun h' tk F X => ?_) hco hgen hk
  let d : FD := ⟨f.name, f.sc, s.heap.objs.size, a, cd⟩
  have Fo : FrameOk d s.heap h' (argV (f.names.zip ps) (fun _ => none)) := by
    refine ⟨_, _, F, X, fun x p e => ?_⟩
    obtain ⟨h1, h2, v, h3, h4⟩ := bind_rel (h := s.heap) (kd := d.env.kindOf) _ _ (paired_zip f.names hvs) hz (fun b hb => hst _ (List.of_mem_zip hb).2) (fun _ => none) (fun _ => none) (fun _ _ e => by cases e) x p e
    exact ⟨h1, .inl ⟨h2, v, h3, h4.keep F.keep⟩⟩
  have H : Host prog w g h₁ k d s := ⟨hA, hM, hk, hx, G.keep hx⟩
  refine hw d s rfl H (A.deeper d.env) h' tk _ _ ok.deeper Fo fun f h2 tk2 fp ρ2 hf F2 K2 hp => ?_
  subst hp
  obtain ⟨v, rfl, hv⟩ := hf
  exact hQ v _ hv ⟨h2, tk2, rfl, F2.ext⟩

theorem callP_ok (hA : AppOk prog w g h₁ k) (hM : MethOk prog w g h₁ k) {a : Addr} {f : FnRec} (hf : FnAt h₁ a f) (hg : f.good = true) (hlim : h₁.NoLimit) (G : Gl h₁ g.γ) {ps : List PV} {r : PV} (h : callP g f ps = some r) :
    ∀ A (s : Shared) vs, Ok (k + 1) A → Ext h₁ s.heap → Paired (Is s.heap) vs ps → Gives prog w A (call (.ref a) vs []) r s := by
  unfold callP at h
  split at h
  · rename_i hc
    split at h
    · rename_i p ρe e
      cases h
      intro A s vs ok hx hvs Q E hQ
      refine fun_okR hA hM hf hg hlim G hc (fun d s₀ hd hh => ?_) A s vs ok hx hvs Q E hQ
      rw [← hd] at e
      exact Runs.mono (runB_sound hh 400 _ _ _ _ e) fun q ρ' hq => hq.1
    · first | exact no_some h | cases h
  · first | exact no_some h | cases h
end
end Mine

end

section -- Blt1
open PySem PySem.W PyProof.Rows
namespace Mine

noncomputable def intsP : List AV → Option (List Int)
  | [] => some []
  | .int i :: r => (intsP r).map (i :: ·)
  | _ => none
noncomputable def strsP : List AV → Option (List Str)
  | [] => some []
  | .str x :: r => (strsP r).map (x :: ·)
  | _ => none
theorem intsP_eq : ∀ {l : List AV} {ns : List Int}, intsP l = some ns → l = ns.map .int
  | [], ns, h => by cases h; rfl
  | a :: r, ns, h => by
    cases a with
    | int i =>
      simp only [intsP, Option.map_eq_some_iff] at h
      obtain ⟨l', h', rfl⟩ := h
      rw [intsP_eq h']; rfl
    | _ => first | exact no_some h | cases h
theorem strsP_eq : ∀ {l : List AV} {ns : List Str}, strsP l = some ns → l = ns.map .str
  | [], ns, h => by cases h; rfl
  | a :: r, ns, h => by
    cases a with
    | str i =>
      simp only [strsP, Option.map_eq_some_iff] at h
      obtain ⟨l', h', rfl⟩ := h
      rw [strsP_eq h']; rfl
    | _ => first | exact no_some h | cases h
theorem intsP_map (ns : List Int) : intsP (ns.map .int) = some ns := by
  induction ns with
  | nil => rfl
  | cons a r ih => simp [intsP, ih]
theorem strsP_map (ns : List Str) : strsP (ns.map .str) = some ns := by
  induction ns with
  | nil => rfl
  | cons a r ih => simp [strsP, ih]

theorem ints_are : ∀ {vs : List Value} {ns : List Int}, Paired AIs vs (ns.map .int) → IntsAre vs ns
  | _, [], .nil => .nil
  | _, n :: ns, .cons ⟨t, e⟩ h => by subst e; exact .cons n t (ints_are h)
theorem strs_are : ∀ {vs : List Value} {ns : List Str}, Paired AIs vs (ns.map .str) → ∃ l : List (Str × Tok), vs = strValues l ∧ l.map (·.1) = ns
  | _, [], .nil => ⟨[], rfl, rfl⟩
  | _, n :: ns, .cons ⟨t, e⟩ h => by
    subst e
    obtain ⟨l, rfl, rfl⟩ := strs_are h
    exact ⟨(n, t) :: l, rfl, rfl⟩
theorem strs_back : ∀ (l : List (Str × Tok)), Paired AIs (strValues l) ((l.map (·.1)).map .str)
  | [] => .nil
  | (_, t) :: r => .cons ⟨t, rfl⟩ (strs_back r)

section
variable {prog : Program} {w : World} {A : Around} {k : Nat} {s : Shared}

noncomputable def lenP : PV → Option PV
  | .list l => if l.length ≤ 1000000 then some (.atom (.int l.length)) else none
  | .tups l => if l.length ≤ 1000000 then some (.atom (.int l.length)) else none
  | .atom (.str x) => if x.length ≤ 1000000 then some (.atom (.int x.length)) else none
  | _ => none

theorem len_ok {p r : PV} {v : Value} (h : lenP p = some r) (hv : Is s.heap v p) : Gives prog w A (call (.builtin "len") [v] []) r s := by
  intro Q E hQ
  unfold lenP at h
  split at h
  · split at h
    · rename_i hz
      cases h
      obtain ⟨T, vs, rfl, hl, hp⟩ := hv
      refine PyProof.Rows.len_list hl (by simp [hp.length]; omega) ?_
      exact hQ _ _ ⟨s.toks + 1, by simp [hp.length]⟩ (tok_keeps _ _)
    · first | exact no_some h | cases h
  · split at h
    · rename_i hz
      cases h
      obtain ⟨T, vs, rfl, hl, hp⟩ := hv
      refine PyProof.Rows.len_list hl (by simp [hp.length]; omega) ?_
      exact hQ _ _ ⟨s.toks + 1, by simp [hp.length]⟩ (tok_keeps _ _)
    · first | exact no_some h | cases h
  · split at h
    · rename_i hz
      cases h
      obtain ⟨t, rfl⟩ := hv
      exact PyProof.Rows.len_str (by omega) (hQ _ _ ⟨_, rfl⟩ (tok_keeps _ _))
    · first | exact no_some h | cases h
  · first | exact no_some h | cases h

noncomputable def rangeP : PV → Option PV
  | .atom (.int n) => if 0 ≤ n then some (.range n.toNat) else none
  | _ => none
theorem range_ok {p r : PV} {v : Value} (h : rangeP p = some r) (hv : Is s.heap v p) : Gives prog w A (call (.type "range") [v] []) r s := by
  intro Q E hQ
  unfold rangeP at h
  split at h
  · split at h
    · rename_i n hn
      cases h
      obtain ⟨t, rfl⟩ := hv
      refine call_range_1 (hQ _ _ ⟨_, s.toks, t, s.toks + 1, rfl, ?_⟩ ⟨_, _, rfl, fun _ _ e => Heap.get?_push_of_some _ e⟩)
      have e : ((n.toNat : Nat) : Int) = n := by omega
      rw [e]
      exact IsRange.new ..
    · first | exact no_some h | cases h
  · first | exact no_some h | cases h

noncomputable def sumP : PV → Option PV
  | .list l => (intsP l).map fun ns => .atom (.int ns.sum)
  | _ => none
theorem sum_ok {p r : PV} {v : Value} (ok : Ok k A) (h : sumP p = some r) (hv : Is s.heap v p) : Gives prog w A (call (.builtin "sum") [v] []) r s := by
  intro Q E hQ
  unfold sumP at h
  split at h
  · simp only [Option.map_eq_some_iff] at h
    obtain ⟨ns, hn, rfl⟩ := h
    obtain ⟨T, vs, rfl, hl, hp⟩ := hv
    rw [intsP_eq hn] at hp
    have hi := ints_are hp
    obtain ⟨xs, hxs⟩ := hi.allInts.items
    rw [hxs] at hl
    refine sum_intListG ok.hh hl fun h' tk t' hk => ?_
    refine hQ _ _ ⟨t', ?_⟩ ⟨h', tk, rfl, hk⟩
    have e1 : numsOf (List.toArray vs).toList = ns := hi.numsOf
    rw [hxs, nums_intItems] at e1
    rw [← e1, preSum_eq, List.take_of_length_le (by simp)]
  · first | exact no_some h | cases h

noncomputable def ordP : PV → Option PV
  | .atom (.str x) => match x.cps.toList with
    | [c] => some (.atom (.int c))
    | _ => none
  | _ => none
theorem ord_ok {p r : PV} {v : Value} (h : ordP p = some r) (hv : Is s.heap v p) : Gives prog w A (call (.builtin "ord") [v] []) r s := by
  intro Q E hQ
  unfold ordP at h
  split at h
  · rename_i x
    split at h
    · rename_i c hc
      cases h
      obtain ⟨t, rfl⟩ := hv
      have e : x = ⟨#[c]⟩ := by
        cases x with | mk a => 
        congr
        exact Array.ext' hc
      subst e
      exact P.ord_of_char (hQ _ _ ⟨_, rfl⟩ (tok_keeps _ _))
    · first | exact no_some h | cases h
  · first | exact no_some h | cases h

noncomputable def chrP : PV → Option PV
  | .atom (.int i) => if 0 ≤ i ∧ i ≤ 0x10FFFF then some (.atom (.str ⟨#[i.toNat]⟩)) else none
  | _ => none
theorem chr_ok {p r : PV} {v : Value} (h : chrP p = some r) (hv : Is s.heap v p) : Gives prog w A (call (.builtin "chr") [v] []) r s := by
  intro Q E hQ
  unfold chrP at h
  split at h
  · split at h
    · rename_i i hi
      cases h
      obtain ⟨t, rfl⟩ := hv
      exact P.chr_of_int (by simp; omega) (hQ _ _ ⟨_, rfl⟩ (tok_keeps _ _))
    · first | exact no_some h | cases h
  · first | exact no_some h | cases h

noncomputable def bytesP : PV → Option PV
  | .list l => match intsP l with
    | some ns => if (ns.all fun n => decide (0 ≤ n ∧ n < 256)) && decide (l.length ≤ 1000000) then some (.atom (.bytes (byteArr ns))) else none
    | none => none
  | _ => none
theorem bytes_ok {p r : PV} {v : Value} (ok : Ok k A) (h : bytesP p = some r) (hv : Is s.heap v p) : Gives prog w A (call (.type "bytes") [v] []) r s := by
  intro Q E hQ
  unfold bytesP at h
  split at h
  · split at h
    · rename_i ns hn
      split at h
      · rename_i hc
        cases h
        simp only [Bool.and_eq_true, List.all_eq_true, decide_eq_true_eq] at hc
        obtain ⟨T, vs, rfl, hl, hp⟩ := hv
        have hlen := hp.length
        rw [intsP_eq hn] at hp
        exact call_bytes_ints hl (ints_are hp) (fun n hm => hc.1 n hm) (by rw [hlen, sizeLine_is]; omega) ok.hh fun h' t tk hk => hQ _ _ ⟨t, rfl⟩ ⟨h', tk, rfl, hk⟩
      · first | exact no_some h | cases h
    · first | exact no_some h | cases h
  · first | exact no_some h | cases h

noncomputable def methS (m : Str) (p : PV) (ps : List PV) : Option PV := match p with
  | .atom (.str x) =>
    if m = Str.ofString "lstrip" then match ps with
      | [.atom (.str y)] => if x.length ≤ 1000000 then some (.atom (.str (Txt.lstripChars x y))) else none
      | _ => none
    else if m = Str.ofString "partition" then match ps with
      | [.atom (.str y)] => if x.length ≤ 1000000 ∧ (y.length == 0) = false then some (.tup [.str (Txt.partition x y).1, .str (Txt.partition x y).2.1, .str (Txt.partition x y).2.2]) else none
      | _ => none
    else if m = Str.ofString "split" then match ps with
      | [.atom (.str y)] => if x.length ≤ 1000000 ∧ (y.length == 0) = false ∧ (Builtin.Str.partsBetween x (Builtin.Str.occurrences x y 0 x.length (x.length + 1)) y.length).length ≤ 1000000 then some (.list ((Txt.split x y).map .str)) else none
      | _ => none
    else if m = Str.ofString "join" then match ps with
      | [.list l] => match strsP l with
        | some xs => if JoinOk x xs then some (.atom (.str (Txt.join x xs))) else none
        | none => none
      | _ => none
    else none
  | _ => none

theorem paired_one {h : Heap} {vs : List Value} {p : PV} (hp : Paired (Is h) vs [p]) : ∃ v, vs = [v] ∧ Is h v p := by
  cases hp with
  | cons x t => cases t; exact ⟨_, rfl, x⟩

theorem methS_ok {m : Str} {p r : PV} {ps : List PV} (h : methS m p ps = some r) : ∃ T id, PlainAttrs T ∧ Slot T m id ∧ typeOf (.builtin id) = pure (.type "method_descriptor") ∧
    ∀ (s : Shared) ov, Is s.heap ov p → s.TypeIs ov T ∧ (∀ a, ov = .ref a → ∃ ob, s.heap.get? a = some ob ∧ ob.dict = none) ∧
      ∀ A vs, Paired (Is s.heap) vs ps → Gives prog w A (call (.builtin id) (ov :: vs)) r s := by
  unfold methS at h
  split at h
  · rename_i x
    have no : ∀ (t : Tok) (s : Shared), s.TypeIs (.str x t) "str" ∧ (∀ a, Value.str x t = .ref a → ∃ ob, s.heap.get? a = some ob ∧ ob.dict = none) := fun t s => ⟨typeIs_str _ _ _, fun _ e => nomatch e⟩
    split at h
    · rename_i hm
      subst hm
      split at h
      · rename_i y
        split at h
        · rename_i hz
          cases h
          refine ⟨"str", _, F.plainAttrs_str, F.slot_str_lstrip, F.type_str_lstrip, fun s ov hov => ?_⟩
          obtain ⟨t, rfl⟩ := hov
          refine ⟨(no t s).1, (no t s).2, fun A vs hvs => ?_⟩
          obtain ⟨v, rfl, u, rfl⟩ := paired_one hvs
          intro Q E hQ
          exact SC.lstripChars (fun t' tk => hQ _ _ ⟨t', rfl⟩ (tok_keeps _ _)) (by rw [sizeLine_is]; omega)
        · first | exact no_some h | cases h
      · first | exact no_some h | cases h
    · split at h
      · rename_i hm
        subst hm
        split at h
        · rename_i y
          split at h
          · rename_i hz
            cases h
            refine ⟨"str", _, F.plainAttrs_str, F.slot_str_partition, F.type_str_partition, fun s ov hov => ?_⟩
            obtain ⟨t, rfl⟩ := hov
            refine ⟨(no t s).1, (no t s).2, fun A vs hvs => ?_⟩
            obtain ⟨v, rfl, u, rfl⟩ := paired_one hvs
            intro Q E hQ
            refine call_meets F.slot_str_partition (typeIs_str _ _ _) F.entry_str_partition (F.args_str_partition_2 _ _) (meets_str_partition x y t u hz.2 (by rw [sizeLine_is]; omega)) ?_
            unfold Txt.partition at hQ
            revert hQ
            cases Builtin.Str.occurrences x y 0 x.length 1 with
            | nil => intro hQ; exact hQ _ _ ⟨_, _, rfl, isTuple_new _ _, .cons ⟨_, rfl⟩ (.cons ⟨_, rfl⟩ (.cons ⟨_, rfl⟩ .nil))⟩ ⟨_, _, rfl, fun _ _ e => Heap.get?_push_of_some _ e⟩
            | cons i l => intro hQ; exact hQ _ _ ⟨_, _, rfl, isTuple_new _ _, .cons ⟨_, rfl⟩ (.cons ⟨_, rfl⟩ (.cons ⟨_, rfl⟩ .nil))⟩ ⟨_, _, rfl, fun _ _ e => Heap.get?_push_of_some _ e⟩
          · first | exact no_some h | cases h
        · first | exact no_some h | cases h
      · split at h
        · rename_i hm
          subst hm
          split at h
          · rename_i y
            split at h
            · rename_i hz
              cases h
              refine ⟨"str", _, F.plainAttrs_str, F.slot_str_split, F.type_str_split, fun s ov hov => ?_⟩
              obtain ⟨t, rfl⟩ := hov
              refine ⟨(no t s).1, (no t s).2, fun A vs hvs => ?_⟩
              obtain ⟨v, rfl, u, rfl⟩ := paired_one hvs
              intro Q E hQ
              refine SCH.split1 (P := fun h' => Ext s.heap h') (fun h' ob e b o q => Heap.get?_push_of_some _ (e b o q)) (Ext.refl _) hz.2.1 (fun D l h' tk hl hx hD => ?_) (by rw [sizeLine_is]; omega) (by rw [sizeLine_is]; omega)
              rw [← hl] at hQ
              exact hQ _ _ ⟨D, _, rfl, hD, strs_back l⟩ ⟨h', tk, rfl, hx⟩
            · first | exact no_some h | cases h
          · first | exact no_some h | cases h
        · split at h
          · rename_i hm
            subst hm
            split at h
            · rename_i l
              split at h
              · rename_i xs hxs
                split at h
                · rename_i hj
                  cases h
                  refine ⟨"str", _, F.plainAttrs_str, F.slot_str_join, F.type_str_join, fun s ov hov => ?_⟩
                  obtain ⟨t, rfl⟩ := hov
                  refine ⟨(no t s).1, (no t s).2, fun A vs hvs => ?_⟩
                  obtain ⟨v, rfl, T, us, rfl, hl, hp⟩ := paired_one hvs
                  rw [strsP_eq hxs] at hp
                  obtain ⟨l', rfl, hl'⟩ := strs_are hp
                  intro Q E hQ
                  exact SC.join hl hl' hj fun t' tk => hQ _ _ ⟨t', rfl⟩ (tok_keeps _ _)
                · first | exact no_some h | cases h
              · first | exact no_some h | cases h
            · first | exact no_some h | cases h
          · first | exact no_some h | cases h
  · first | exact no_some h | cases h

end
end Mine

end

section -- Sort1
open PySem PySem.W PyProof.Rows
namespace Mine

noncomputable def runK {α : Type} (lt : Nat → Nat → Bool) : KasT α → α
  | .ret a => a
  | .ask i j k => runK lt (k (lt i j))
noncomputable def withinK (n : Nat) : KasT (Array Nat) → Bool
  | .ret p => p.toList.all (· < n)
  | .ask i j k => decide (i < n) && decide (j < n) && withinK n (k true) && withinK n (k false)

theorem within_run {n : Nat} {lt : Nat → Nat → Bool} : ∀ (t : KasT (Array Nat)), withinK n t = true → ∀ i ∈ (runK lt t).toList, i < n
  | .ret p, h, i, hi => by
    have := List.all_eq_true.mp h i hi
    simpa using this
  | .ask i j k, h, x, hx => by
    unfold withinK at h
    simp only [Bool.and_eq_true] at h
    unfold runK at hx
    cases hc : lt i j with
    | true => rw [hc] at hx; exact within_run _ h.1.2 x hx
    | false => rw [hc] at hx; exact within_run _ h.2 x hx

theorem kas_pure {n : Nat} {lt : Nat → Nat → Bool} {cmp : Nat → Nat → (Bool → Shared → Prop) → Shared → Prop} {Q : Array Nat → Shared → Prop} {s : Shared} (hc : ∀ i j C, i < n → j < n → C (lt i j) s → cmp i j C s) :
    ∀ (t : KasT (Array Nat)), withinK n t = true → Q (runK lt t) s → t.kasWp cmp Q s
  | .ret p, _, h => h
  | .ask i j k, h, hq => by
    unfold withinK at h
    simp only [Bool.and_eq_true, decide_eq_true_eq] at h
    refine hc i j _ h.1.1.1 h.1.1.2 ?_
    unfold runK at hq
    cases hb : lt i j with
    | true => rw [hb] at hq; exact kas_pure hc _ h.1.2 hq
    | false => rw [hb] at hq; exact kas_pure hc _ h.2 hq

theorem within5 : ∀ n, n ≤ 5 → 2 ≤ n → withinK n (kas_sort n) = true := by
  intro n h1 h2
  have : n = 2 ∨ n = 3 ∨ n = 4 ∨ n = 5 := by omega
  rcases this with rfl | rfl | rfl | rfl <;> decide +kernel

noncomputable def sortIdx (lt : Nat → Nat → Bool) (n : Nat) : List Nat := if n < 2 then List.range n else (runK lt (kas_sort n)).toList
noncomputable def sortBy {α : Type} (lt : α → α → Bool) (d : α) (l : List α) : List α := (sortIdx (fun i j => lt (l.getD i d) (l.getD j d)) l.length).map (l.getD · d)

theorem sortIdx_lt {lt : Nat → Nat → Bool} {n : Nat} (h5 : n ≤ 5) : ∀ i ∈ sortIdx lt n, i < n := by
  intro i hi
  unfold sortIdx at hi
  split at hi
  · exact List.mem_range.mp hi
  · exact within_run _ (within5 n h5 (by omega)) i hi

section
variable {prog : Program} {w : World} {A : Around} {E : Value → Shared → Prop} {s : Shared}

theorem ext_upd {h : Heap} {a : Addr} {f : Obj → Obj} : ∀ b o, b ≠ a → h.get? b = some o → (h.update a f).get? b = some o := fun b o hb e => (Heap.SameBut.update h a f).extBut b o hb e

theorem zip_self (vs : List Value) : ((List.toArray vs).zip (List.toArray vs)).map (·.2) = List.toArray vs := by
  apply Array.toList_inj.mp
  simp
  induction vs with
  | nil => rfl
  | cons a r ih => simp [ih]

theorem sort_plain {a : Addr} {vs : List Value} {n : Nat} {κ : SortKind} {lt : Nat → Nat → Bool} {P : PySem.Fin → Shared → Prop} (ho : s.heap.get? a = some (seqObj "list" (List.toArray vs) n)) (h5 : vs.length ≤ 5)
    (hkind : 2 ≤ vs.length → ∀ h' (Q : SortKind → Shared → Prop) (E : Value → Shared → Prop), (∀ b o, b ≠ a → s.heap.get? b = some o → h'.get? b = some o) → Q κ { s with heap := h' } → wpAny (model prog w) A (keyKind' (List.toArray vs)) Q E { s with heap := h' })
    (hcmp : ∀ i j, i < vs.length → j < vs.length → ∀ h' (C : Bool → Shared → Prop) (E : Value → Shared → Prop), (∀ b o, b ≠ a → s.heap.get? b = some o → h'.get? b = some o) → C (lt i j) { s with heap := h' } → wpAny (model prog w) A (keyLt' κ (vs.getD i Value.none) (vs.getD j Value.none)) C E { s with heap := h' })
    (h : ∀ h', (∀ b o, b ≠ a → s.heap.get? b = some o → h'.get? b = some o) → h'.IsList a (List.toArray ((sortIdx lt vs.length).map (vs.getD · Value.none))) → P (.done (.ret .none)) { s with heap := h' }) :
    wpAny (model prog w) A (Builtin.«list.sort» ⟨[.ref a], []⟩) P E s := by
  have ha : a < s.heap.objs.size := Heap.lt_size ho
  obtain ⟨e1, ho1⟩ : ∃ e1, (s.heap.update a (Obj.mapSeq fun _ => (#[] : Array Value))).get? a = some (seqObj "list" #[] e1) := ⟨_, get?_update_seq ho fun _ => #[]⟩
  rw [list_sort_plain]
  refine wpAny_bind (listItems_at ho rfl ?_)
  refine wpAny_bind (listUpdate_at ho rfl ?_ (by rw [List.size_toArray, sizeLine_is]; omega) (Nat.zero_le _))
  refine wpAny_bind (seqEpoch_at ho1 rfl ?_)
  refine wpAny_bind (wpAny_newTuple ?_ (by show vs.length ≤ _; rw [sizeLine_is]; omega))
  refine wpAny_bind (wpAny_newList ?_ (Nat.zero_le _))
  refine wpAny_holding ?_
  show wpAny (model prog w) A _ P E { s with heap := ((s.heap.update a (Obj.mapSeq fun _ => (#[] : Array Value))).push (seqObj "tuple" (List.toArray vs) 0)).push (seqObj "list" #[] 0) }
  generalize hH : ((s.heap.update a (Obj.mapSeq fun _ => (#[] : Array Value))).push (seqObj "tuple" (List.toArray vs) 0)).push (seqObj "list" #[] 0) = H
  have kp : ∀ b o, b ≠ a → s.heap.get? b = some o → H.get? b = some o := fun b o hb e => by
    rw [← hH]
    exact Heap.get?_push_of_some _ (Heap.get?_push_of_some _ (ext_upd b o hb e))
  have hoH : H.get? a = some (seqObj "list" #[] e1) := by
    rw [← hH]
    exact Heap.get?_push_of_some _ (Heap.get?_push_of_some _ ho1)
  dsimp only
  -- the end, once the order is known
  have fin : ∀ (st : SortSt) (out : List Value), (arrOf st).map (·.2) = List.toArray out → failedOf st = none → out = (sortIdx lt vs.length).map (vs.getD · Value.none) → out.length ≤ 100 →
      wpAny (model prog w) A (do
        let touched := (← seqEpoch a) != e1
        Builtin.List.listUpdate (.ref a) fun _ => (arrOf st).map (·.2)
        if let some e := failedOf st then rule "list.sort.comparison-raised"; throw e
        if touched then rule "list.sort.modified"; raiseError "ValueError" "list modified during sort"
        ret .none) P E { s with heap := H } := fun st out hst hf hout hz => by
    refine wpAny_bind (seqEpoch_at hoH rfl ?_)
    rw [hst]
    refine wpAny_bind (listUpdate_at hoH rfl ?_ (Nat.zero_le _) (by rw [List.size_toArray, sizeLine_is]; omega))
    rw [hf]
    simp only [bne_self_eq_false, Bool.false_eq_true, if_false]
    refine wpAny_pure (h _ (fun b o hb e => ext_upd b o hb (kp b o hb e)) ?_)
    rw [← hout]
    exact ⟨_, get?_update_seq hoH fun _ => List.toArray out, rfl, _, rfl⟩
  by_cases h2 : vs.length < 2
  · have hlt : (List.toArray vs).size < 2 := by rw [List.size_toArray]; exact h2
    rw [if_pos hlt, if_pos hlt]
    refine wpAny_bind (wpAny_pure ?_)
    refine wpAny_bind (wpAny_pure ?_)
    refine fin _ vs (zip_self vs) rfl ?_ (by omega)
    unfold sortIdx
    rw [if_pos h2]
    apply List.ext_getElem
    · simp
    · intro i h1 h2
      simp [h1]
  · have hn2 : ¬ (List.toArray vs).size < 2 := by rw [List.size_toArray]; exact h2
    rw [if_neg hn2, if_neg hn2]
    refine wpAny_bind (hkind (by omega) H _ _ kp ?_)
    refine wpAny_bind (wpAny_mono (kat_run (Q := fun st' s' => s' = { s with heap := H } ∧ (arrOf st').map (·.2) = List.toArray ((sortIdx lt vs.length).map (vs.getD · Value.none)) ∧ failedOf st' = none ∧ ((sortIdx lt vs.length).map (vs.getD · Value.none)).length ≤ 100)
      (G := fun p s' => s' = { s with heap := H } ∧ p = runK lt (kas_sort vs.length)) rfl (by omega) (by omega) (fun p st' s' hp har hf hG => ?_) ?_) ?_ fun _ _ e => e)
    · obtain ⟨rfl, rfl⟩ := hG
      have es : sortIdx lt vs.length = (runK lt (kas_sort vs.length)).toList := by
        unfold sortIdx
        rw [if_neg h2]
      refine ⟨rfl, ?_, hf, ?_⟩
      · rw [kat_snds rfl har, es]
      · rw [List.length_map, es, Array.length_toList, hp]
        omega
    · refine kas_pure (n := vs.length) (lt := lt) (fun i j C hi hj hC => ?_) _ (within5 _ h5 (by omega)) ⟨rfl, rfl⟩
      unfold kas_ask
      exact hcmp i j hi hj H C _ kp hC
    · rintro ⟨⟨⟩, st'⟩ s' ⟨rfl, hst, hf, hz⟩
      exact fin st' _ hst hf rfl hz

end
end Mine

end

section -- Sort2
open PySem PySem.W PyProof.Rows
namespace Mine

section
variable {prog : Program} {w : World} {A : Around} {E : Value → Shared → Prop} {s : Shared}

theorem sorted_plain {l : Addr} {vs : List Value} {κ : SortKind} {lt : Nat → Nat → Bool} {Q : Value → Shared → Prop} (hl : s.heap.IsList l (List.toArray vs)) (h5 : vs.length ≤ 5)
    (hkind : 2 ≤ vs.length → ∀ h' (Q : SortKind → Shared → Prop) (E : Value → Shared → Prop), Ext s.heap h' → Q κ { s with heap := h' } → wpAny (model prog w) A.in1.in1 (keyKind' (List.toArray vs)) Q E { s with heap := h' })
    (hcmp : ∀ i j, i < vs.length → j < vs.length → ∀ h' (C : Bool → Shared → Prop) (E : Value → Shared → Prop), Ext s.heap h' → C (lt i j) { s with heap := h' } → wpAny (model prog w) A.in1.in1 (keyLt' κ (vs.getD i Value.none) (vs.getD j Value.none)) C E { s with heap := h' })
    (h : ∀ D h', Ext s.heap h' → h'.IsList D (List.toArray ((sortIdx lt vs.length).map (vs.getD · Value.none))) → Q (.ref D) { s with heap := h' }) :
    wpAny (model prog w) A (call (.builtin "sorted") [.ref l]) Q E s := by
  refine Calls.call_function_entry kind_sorted plain_sorted entry_sorted (args_sorted1 _) ?_
  unfold Builtin.«sorted»
  refine wpAny_bind (m := checkCount "sorted" 1 1 _) (wpAny_pure ?_)
  refine wpAny_bind (collect_list hl ?_ (by rw [sizeLine_is]; omega))
  refine wpAny_bind (wpAny_newList ?_ (by rw [sizeLine_is]; omega))
  have hsz : ((s.heap.push (seqObj "list" #[] 0)).update s.heap.objs.size (Obj.mapSeq (· ++ vs.toArray))).objs.size = s.heap.objs.size + 1 := by
    rw [Heap.size_update, size_push']
  have hoL : (((s.heap.push (seqObj "list" #[] 0)).update s.heap.objs.size (Obj.mapSeq (· ++ vs.toArray))).push (seqObj "list" vs.toArray 0)).get? (s.heap.objs.size + 1) = some (seqObj "list" vs.toArray 0) := by
    rw [← hsz]; exact Heap.get?_push_size _ rfl
  have keep : ∀ b o, s.heap.get? b = some o → (((s.heap.push (seqObj "list" #[] 0)).update s.heap.objs.size (Obj.mapSeq (· ++ vs.toArray))).push (seqObj "list" vs.toArray 0)).get? b = some o := fun b o q => by
    have hlt : b < s.heap.objs.size := Heap.lt_size q
    rw [Heap.get?_push_ne _ _ _ (by rw [hsz]; exact Nat.ne_of_lt (Nat.lt_succ_of_lt hlt)), Heap.get?_update_ne _ _ _ _ (Nat.ne_of_lt hlt), Heap.get?_push_ne _ _ _ (Nat.ne_of_lt hlt)]
    exact q
  show wpAny _ _ _ _ _ { s with heap := ((s.heap.push (seqObj "list" #[] 0)).update s.heap.objs.size (Obj.mapSeq (· ++ vs.toArray))).push (seqObj "list" vs.toArray 0) }
  rw [hsz]
  have up : ∀ h', (∀ b o, b ≠ s.heap.objs.size + 1 → (((s.heap.push (seqObj "list" #[] 0)).update s.heap.objs.size (Obj.mapSeq (· ++ vs.toArray))).push (seqObj "list" vs.toArray 0)).get? b = some o → h'.get? b = some o) → Ext s.heap h' := fun h' k b o e => k b o (fun eb => by have h1 := Heap.lt_size e; rw [eb] at h1; exact absurd h1 (Nat.not_lt.mpr (Nat.le_succ _))) (keep b o e)
  refine wpAny_bind (wpAny_holding (wpAny_call_entry slot_list_sort ⟨_, hoL, rfl⟩ entry_list_sort ?body (args_list_sort _)))
  refine sort_plain (s := { s with heap := ((s.heap.push (seqObj "list" #[] 0)).update s.heap.objs.size (Obj.mapSeq (· ++ vs.toArray))).push (seqObj "list" vs.toArray 0) }) (κ := κ) (lt := lt) hoL h5
    (fun h2 h' Q' E' k hq => hkind h2 h' Q' E' (up h' k) hq) (fun i j hi hj h' C E' k hq => hcmp i j hi hj h' C E' (up h' k) hq) fun h' k hD => ?_
  exact ⟨_, rfl, wpAny_pure ⟨_, rfl, h _ h' (up h' k) hD⟩⟩

/-- the order of the book's rows -/
noncomputable def rowLt (p q : Int × Str) : Bool := if p.1 = q.1 then (if p.2 = q.2 then false else decide (p.2.cps.toList < q.2.cps.toList)) else decide (p.1 < q.1)

noncomputable def rowsP : List (List AV) → Option (List (Int × Str))
  | [] => some []
  | [.int i, .str x] :: r => (rowsP r).map ((i, x) :: ·)
  | _ => none
noncomputable def rowAV (p : Int × Str) : List AV := [.int p.1, .str p.2]
theorem rowsP_eq : ∀ {l : List (List AV)} {ns : List (Int × Str)}, rowsP l = some ns → l = ns.map rowAV
  | [], ns, h => by cases h; rfl
  | a :: r, ns, h => by
    unfold rowsP at h
    split at h
    · rename_i e; cases e
    · rename_i i x r' e
      cases e
      simp only [Option.map_eq_some_iff] at h
      obtain ⟨l', h', rfl⟩ := h
      rw [rowsP_eq h']; rfl
    · first | exact no_some h | cases h
theorem rowsP_map (ns : List (Int × Str)) : rowsP (ns.map rowAV) = some ns := by
  induction ns with
  | nil => rfl
  | cons a r ih => simp [rowsP, rowAV, ih]

theorem paired_getD {α β : Type} {R : α → β → Prop} : ∀ {xs : List α} {ys : List β} {dx : α} {dy : β}, Paired R xs ys → ∀ i, i < xs.length → R (xs.getD i dx) (ys.getD i dy)
  | _, _, _, _, .nil, i, h => by cases h
  | _, _, _, _, .cons h t, 0, _ => h
  | _, _, _, _, .cons h t, i + 1, hi => paired_getD t i (by simpa using hi)

theorem paired_idx {α β : Type} {R : α → β → Prop} {xs : List α} {ys : List β} {dx : α} {dy : β} (h : Paired R xs ys) : ∀ (is : List Nat), (∀ i ∈ is, i < xs.length) → Paired R (is.map (xs.getD · dx)) (is.map (ys.getD · dy))
  | [], _ => .nil
  | i :: r, hi => .cons (paired_getD h i (hi i (.head _))) (paired_idx h r fun j hj => hi j (.tail _ hj))

theorem kat_tups_of {h : Heap} : ∀ {vs : List Value} {ns : List (Int × Str)}, Paired (TIs h) vs (ns.map rowAV) → ∃ fs, KatTups h vs fs ∧ fs.length = ns.length ∧ ∀ v ∈ fs, ∃ i t, v = .int i t
  | _, [], .nil => ⟨[], .nil, rfl, fun _ e => by cases e⟩
  | _, n :: ns, .cons ⟨T, us, e, ⟨o, ho, hc, k, hd⟩, hp⟩ t => by
    obtain ⟨fs, h1, h2, h3⟩ := kat_tups_of t
    subst e
    cases hp with
    | cons hi r =>
      obtain ⟨t, rfl⟩ := hi
      exact ⟨.int n.1 t :: fs, .cons ho hc hd rfl h1, by simp [h2], fun v hv => by
        rcases List.mem_cons.mp hv with rfl | hv
        · exact ⟨_, _, rfl⟩
        · exact h3 v hv⟩

theorem paired2 {α β : Type} {F : α → β → Prop} {us : List α} {a b : β} (h : Paired F us [a, b]) : ∃ x y, us = [x, y] ∧ F x a ∧ F y b := by
  cases h with
  | cons h1 t => cases t with
    | cons h2 t => cases t; exact ⟨_, _, rfl, h1, h2⟩

theorem row_lt {x y : Value} {p q : Int × Str} {C : Bool → Shared → Prop} (hx : TIs s.heap x (rowAV p)) (hy : TIs s.heap y (rowAV q)) (h : C (rowLt p q) s) : wpAny (model prog w) A (keyLt' (tuples' true) x y) C E s := by
  obtain ⟨X, us, rfl, ⟨o, ho, hc, k, hd⟩, hp⟩ := hx
  obtain ⟨Y, us', rfl, ⟨o', ho', hc', k', hd'⟩, hp'⟩ := hy
  obtain ⟨x1, x2, rfl, ⟨t1, rfl⟩, ⟨t2, rfl⟩⟩ := paired2 (a := AV.int p.1) (b := AV.str p.2) hp
  obtain ⟨y1, y2, rfl, ⟨t3, rfl⟩, ⟨t4, rfl⟩⟩ := paired2 (a := AV.int q.1) (b := AV.str q.2) hp'
  refine kat_lt ho hd ho' hd' ?_
  refine kat_cons ?_
  refine wpAny_eqBool_int ?_
  unfold rowLt at h
  by_cases h1 : p.1 = q.1
  · rw [if_pos h1] at h
    simp only [h1, decide_true, beq_self_eq_true]
    refine kat_yes (kat_cons (eqBool_str ?_))
    by_cases h2 : p.2 = q.2
    · rw [if_pos h2] at h
      rw [h2, beq_self_eq_true]
      exact kat_yes (kat_nil (by simpa using h))
    · rw [if_neg h2] at h
      rw [beq_false_of_ne h2]
      refine kat_no (kat_one _ _ ?_)
      exact PySem.P.lt_str h
  · rw [if_neg h1] at h
    rw [beq_false_of_ne h1]
    refine kat_no ?_
    exact oneLt_int h

end
end Mine

end

section -- Sort3
open PySem PySem.W PyProof.Rows
namespace Mine

section
variable {prog : Program} {w : World} {A : Around} {E : Value → Shared → Prop} {s : Shared}

noncomputable def strLt (x y : Str) : Bool := decide (x.cps.toList < y.cps.toList)

theorem keys_fold {body : Value → PUnit → Sem (ForInStep PUnit)} {m : Nat} (I : List Str → Shared → Prop)
    (hb : ∀ v x done (s' : Shared), done.length < m → AIs v (.str x) → I done s' → wpAny (model prog w) A (body v ⟨⟩) (fun r s'' => r = .yield ⟨⟩ ∧ I (done ++ [x]) s'') E s') :
    ∀ (xr : List Str) (r : List Value) (done : List Str) (s' : Shared), done.length + xr.length ≤ m → Paired AIs r (xr.map .str) → I done s' → wpAny (model prog w) A (forIn r PUnit.unit body) (fun _ s'' => I (done ++ xr) s'') E s' := by
  intro xr
  induction xr with
  | nil =>
    intro r done s' _ hp h
    cases hp
    rw [List.forIn_nil]
    exact wpAny_pure (by simpa using h)
  | cons x xr ih =>
    intro r done s' hm hp h
    cases hp with
    | cons hv hr =>
      rw [List.forIn_cons]
      rw [List.length_cons] at hm
      refine wpAny_bind (wpAny_mono (hb _ x done s' (by omega) hv h) (fun q s'' hq => ?_) fun _ _ x => x)
      obtain ⟨rfl, hI⟩ := hq
      show wpAny (model prog w) A (forIn _ PUnit.unit body) _ E s''
      have := ih _ (done ++ [x]) s'' (by rw [List.length_append, List.length_singleton]; omega) hr hI
      simpa [List.append_assoc] using this

theorem getD_mapS : ∀ (l : List Str) (i : Nat), (l.map AV.str).getD i (AV.str default) = AV.str (l.getD i default)
  | [], _ => rfl
  | _ :: _, 0 => rfl
  | _ :: r, i + 1 => getD_mapS r i
theorem strsAre_of : ∀ {vs : List Value} {xs : List Str}, Paired AIs vs (xs.map .str) → StrsAre vs xs
  | _, [], .nil => .nil
  | _, x :: xs, .cons ⟨t, e⟩ h => by subst e; exact .cons x t (strsAre_of h)

theorem zip_snd : ∀ (ks vs : List Value), ks.length = vs.length → ((List.toArray ks).zip (List.toArray vs)).map (·.2) = List.toArray vs := by
  intro ks vs h
  apply Array.toList_inj.mp
  simp
  induction vs generalizing ks with
  | nil => simp
  | cons a r ih =>
    match ks, h with
    | b :: t, h => simp [ih t (by simpa using h)]

theorem sort_keyed {a : Addr} {vs : List Value} {xs : List Str} {n : Nat} {f : Value} {P : PySem.Fin → Shared → Prop} (ho : s.heap.get? a = some (seqObj "list" (List.toArray vs) n)) (h5 : vs.length ≤ 5) (hxs : Paired AIs vs (xs.map .str))
    (hf : ∀ (s' : Shared) v x, (∀ b o, b ≠ a → s.heap.get? b = some o → s'.heap.get? b = some o) → AIs v (.str x) → Gives prog w A (call f [v]) (.atom (.str x)) s')
    (h : ∀ h' tk, (∀ b o, b ≠ a → s.heap.get? b = some o → h'.get? b = some o) → h'.IsList a (List.toArray ((sortIdx (fun i j => strLt (xs.getD i default) (xs.getD j default)) vs.length).map (vs.getD · Value.none))) → P (.done (.ret .none)) { s with heap := h', toks := tk }) :
    wpAny (model prog w) A (ksk_tree a f false) P E s := by
  have ha : a < s.heap.objs.size := Heap.lt_size ho
  obtain ⟨e1, ho1⟩ : ∃ e1, (s.heap.update a (Obj.mapSeq fun _ => (#[] : Array Value))).get? a = some (seqObj "list" #[] e1) := ⟨_, get?_update_seq ho fun _ => #[]⟩
  unfold ksk_tree
  refine wpAny_bind (listItems_at ho rfl ?_)
  refine wpAny_bind (listUpdate_at ho rfl ?_ (by rw [List.size_toArray, sizeLine_is]; omega) (Nat.zero_le _))
  refine wpAny_bind (seqEpoch_at ho1 rfl ?_)
  refine wpAny_bind (wpAny_newTuple ?_ (by show vs.length ≤ _; rw [sizeLine_is]; omega))
  refine wpAny_bind (wpAny_newList ?_ (Nat.zero_le _))
  refine wpAny_holding ?_
  show wpAny (model prog w) A _ P E { s with heap := ((s.heap.update a (Obj.mapSeq fun _ => (#[] : Array Value))).push (seqObj "tuple" (List.toArray vs) 0)).push (seqObj "list" #[] 0) }
  have hkS : ((s.heap.update a (Obj.mapSeq fun _ => (#[] : Array Value))).push (seqObj "tuple" vs.toArray 0)).objs.size = s.heap.objs.size + 1 := by rw [size_push', Heap.size_update]
  generalize hK : ((s.heap.update a (Obj.mapSeq fun _ => (#[] : Array Value))).push (seqObj "tuple" vs.toArray 0)).objs.size = kS
  have hko : (((s.heap.update a (Obj.mapSeq fun _ => (#[] : Array Value))).push (seqObj "tuple" (List.toArray vs) 0)).push (seqObj "list" #[] 0)).get? kS = some (seqObj "list" #[] 0) := by
    rw [← hK]; exact Heap.get?_push_size _ rfl
  generalize hH : ((s.heap.update a (Obj.mapSeq fun _ => (#[] : Array Value))).push (seqObj "tuple" (List.toArray vs) 0)).push (seqObj "list" #[] 0) = H
  rw [hH] at hko
  have hkn : kS = s.heap.objs.size + 1 := by rw [← hK, hkS]
  have hka : kS ≠ a := by rw [hkn]; exact Nat.ne_of_gt (Nat.lt_succ_of_lt ha)
  have kp : ∀ b o, b ≠ a → s.heap.get? b = some o → H.get? b = some o := fun b o hb e => by
    rw [← hH]
    exact Heap.get?_push_of_some _ (Heap.get?_push_of_some _ (ext_upd b o hb e))
  have hoH : H.get? a = some (seqObj "list" #[] e1) := by
    rw [← hH]
    exact Heap.get?_push_of_some _ (Heap.get?_push_of_some _ ho1)
  have old : ∀ b o, s.heap.get? b = some o → b ≠ kS := fun b o e => by
    have := Heap.lt_size e
    rw [hkn]; exact Nat.ne_of_lt (Nat.lt_succ_of_lt this)
  unfold ksk_rest
  refine wpAny_bind (wpAny_rule ?_)
  first
    | rw [List.forIn_toArray]
    | (rw [← Array.forIn_toList]; simp only [List.toList_toArray])
    | rw [← Array.forIn_toList]
  have hxl := hxs.length
  rw [List.length_map] at hxl
  refine wpAny_bind (wpAny_mono (keys_fold (m := 5) (I := fun done s' => ∃ h' tk ks e, s' = { s with heap := h', toks := tk } ∧ h'.get? kS = some (seqObj "list" (List.toArray ks) e) ∧ h'.get? a = some (seqObj "list" #[] e1) ∧ (∀ b o, b ≠ a → s.heap.get? b = some o → h'.get? b = some o) ∧ Paired AIs ks (done.map .str))
    (fun v x done s' hd hv hI => ?_) xs vs [] { s with heap := H } (by simp; omega) hxs ⟨H, s.toks, [], 0, rfl, hko, hoH, kp, .nil⟩) (fun _ s' hI => ?_) fun _ _ e => e)
  · obtain ⟨h', tk, ks, e, rfl, k1, k2, k3, k4⟩ := hI
    have hkl := k4.length
    rw [List.length_map] at hkl
    refine wpAny_bind (wpAny_attempt (hf { s with heap := h', toks := tk } v x k3 hv _ _ fun k s2 hk K => ?_))
    obtain ⟨h2, tk2, rfl, kx⟩ := K
    dsimp only
    refine wpAny_bind (listUpdate_at (s := { s with heap := h2, toks := tk2 }) (kx _ _ k1) rfl ?_ (by rw [List.size_toArray, sizeLine_is]; omega) (Nat.le_trans (Nat.le_of_eq (Array.size_push ..)) (by rw [List.size_toArray, sizeLine_is]; omega)))
    have ea : (List.toArray ks).push k = List.toArray (ks ++ [k]) := by simp
    obtain ⟨c2, hc2⟩ : ∃ c2, (h2.update kS (Obj.mapSeq (·.push k))).get? kS = some (seqObj "list" (List.toArray (ks ++ [k])) c2) := ⟨_, by rw [← ea]; exact get?_update_seq (kx _ _ k1) (·.push k)⟩
    refine wpAny_pure ⟨rfl, _, tk2, ks ++ [k], c2, rfl, hc2, ext_upd _ _ (Ne.symm hka) (kx _ _ k2), fun b o hb eb => ext_upd _ _ (old b o eb) (kx _ _ (k3 b o hb eb)), ?_⟩
    rw [List.map_append]
    exact paired_append k4 (.cons hk .nil)
  · obtain ⟨h', tk, ks, e, rfl, k1, k2, k3, k4⟩ := hI
    rw [List.nil_append] at k4
    have hkl := k4.length
    rw [List.length_map] at hkl
    have hkv : ks.length = vs.length := by omega
    refine wpAny_bind (listItems_at k1 rfl ?_)
    have fin : ∀ (st : SortSt) (out : List Value), (arrOf st).map (·.2) = List.toArray out → failedOf st = none → out = (sortIdx (fun i j => strLt (xs.getD i default) (xs.getD j default)) vs.length).map (vs.getD · Value.none) → out.length ≤ 100 →
        wpAny (model prog w) A (ksk_tail a false e1 (.ref kS) st) P E { s with heap := h', toks := tk } := fun st out hst hff hout hz => by
      unfold ksk_tail
      dsimp only
      rw [hst]
      refine wpAny_bind (listUpdate_at (s := { s with heap := h', toks := tk }) k1 rfl ?_ (by rw [List.size_toArray, sizeLine_is]; omega) (Nat.zero_le _))
      refine wpAny_bind (wpAny_letGo ?_)
      have k2' : (h'.update kS (Obj.mapSeq fun _ => (#[] : Array Value))).get? a = some (seqObj "list" #[] e1) := ext_upd _ _ (Ne.symm hka) k2
      refine wpAny_bind (seqEpoch_at k2' rfl ?_)
      refine wpAny_bind (listUpdate_at k2' rfl ?_ (Nat.zero_le _) (by simp only [Bool.false_eq_true, if_false]; rw [List.size_toArray, sizeLine_is]; omega))
      rw [hff]
      simp only [bne_self_eq_false, Bool.false_eq_true, if_false]
      refine wpAny_pure (h _ tk (fun b o hb eb => ext_upd _ _ hb (ext_upd _ _ (old b o eb) (k3 b o hb eb))) ?_)
      rw [← hout]
      exact ⟨_, get?_update_seq k2' fun _ => List.toArray out, rfl, _, rfl⟩
    unfold ksk_end
    try dsimp only
    simp only [Bool.false_eq_true, if_false]
    by_cases h2 : vs.length < 2
    · have hlt : (List.toArray vs).size < 2 := by rw [List.size_toArray]; exact h2
      rw [if_pos hlt, if_pos hlt]
      refine wpAny_bind (wpAny_pure ?_)
      refine wpAny_bind (wpAny_pure ?_)
      refine fin _ vs (zip_snd ks vs hkv) rfl ?_ (by omega)
      unfold sortIdx
      rw [if_pos h2]
      apply List.ext_getElem
      · simp
      · intro i h1 h2
        simp [h1]
    · have hn2 : ¬ (List.toArray vs).size < 2 := by rw [List.size_toArray]; exact h2
      rw [if_neg hn2, if_neg hn2]
      have hkk : keyKind' (List.toArray ks) = pure oneType' := by
        match ks, k4, hkv with
        | [], _, hkv => rw [← hkv] at h2; exact absurd (by simp) h2
        | [_], _, hkv => rw [← hkv] at h2; exact absurd (by simp) h2
        | v₁ :: v₂ :: r, k4, _ => exact keyKind_strs (strsAre_of k4)
      rw [hkk]
      refine wpAny_bind (wpAny_pure ?_)
      refine wpAny_bind (wpAny_mono (kat_run (Q := fun st' s' => s' = { s with heap := h', toks := tk } ∧ (arrOf st').map (·.2) = List.toArray ((sortIdx (fun i j => strLt (xs.getD i default) (xs.getD j default)) vs.length).map (vs.getD · Value.none)) ∧ failedOf st' = none ∧ ((sortIdx (fun i j => strLt (xs.getD i default) (xs.getD j default)) vs.length).map (vs.getD · Value.none)).length ≤ 100)
        (G := fun p s' => s' = { s with heap := h', toks := tk } ∧ p = runK (fun i j => strLt (xs.getD i default) (xs.getD j default)) (kas_sort vs.length)) hkv (by omega) (by omega) (fun p st' s' hp har hff hG => ?_) ?_) ?_ fun _ _ e => e)
      · obtain ⟨rfl, rfl⟩ := hG
        have es : sortIdx (fun i j => strLt (xs.getD i default) (xs.getD j default)) vs.length = (runK (fun i j => strLt (xs.getD i default) (xs.getD j default)) (kas_sort vs.length)).toList := by
          unfold sortIdx
          rw [if_neg h2]
        refine ⟨rfl, ?_, hff, ?_⟩
        · rw [kat_snds hkv har, es]
        · rw [List.length_map, es, Array.length_toList, hp]
          omega
      · refine kas_pure (n := vs.length) (fun i j C hi hj hC => ?_) _ (within5 _ h5 (by omega)) ⟨rfl, rfl⟩
        unfold kas_ask
        rw [keyLt'_oneType]
        have gx := paired_getD (dx := Value.none) (dy := AV.str default) k4 i (by omega)
        have gy := paired_getD (dx := Value.none) (dy := AV.str default) k4 j (by omega)
        rw [getD_mapS] at gx gy
        obtain ⟨t1, e1⟩ := gx
        obtain ⟨t2, e2⟩ := gy
        rw [e1, e2]
        exact oneLt_str hC
      · rintro ⟨⟨⟩, st'⟩ s' ⟨rfl, hst, hff, hz⟩
        exact fin st' _ hst hff rfl hz
end
end Mine

end

section -- Sort4
open PySem PySem.W PyProof.Rows
namespace Mine

section
variable {prog : Program} {w : World} {A : Around} {E : Value → Shared → Prop} {s : Shared}

theorem getD_mapR : ∀ (l : List (Int × Str)) (i : Nat), (l.map rowAV).getD i (rowAV default) = rowAV (l.getD i default)
  | [], _ => rfl
  | _ :: _, 0 => rfl
  | _ :: r, i + 1 => getD_mapR r i

noncomputable def sortRows (l : List (Int × Str)) : List (Int × Str) := sortBy rowLt default l
noncomputable def sortStrs (l : List Str) : List Str := sortBy strLt default l

noncomputable def sortedP : PV → Option PV
  | .tups l => (rowsP l).bind fun ns => if ns.length ≤ 5 then some (.tups ((sortRows ns).map rowAV)) else none
  | _ => none

theorem sorted_ok {p r : PV} {v : Value} (h : sortedP p = some r) (hv : Is s.heap v p) : Gives prog w A (call (.builtin "sorted") [v] []) r s := by
  intro Q E hQ
  unfold sortedP at h
  split at h
  · rw [Option.bind_eq_some_iff] at h
    obtain ⟨ns, hn, h⟩ := h
    split at h
    · rename_i h5
      cases h
      obtain ⟨T, vs, rfl, hl, hp⟩ := hv
      rw [rowsP_eq hn] at hp
      have hlen := hp.length
      rw [List.length_map] at hlen
      refine sorted_plain (κ := tuples' true) (lt := fun i j => rowLt (ns.getD i default) (ns.getD j default)) hl (by omega) (fun h2 h' Q' E' X hq => ?_) (fun i j hi hj h' C E' X hC => ?_) fun D h' X hD => ?_
      · have hp' : Paired (TIs h') vs (ns.map rowAV) := hp.mono fun _ _ q => TIs.keepS q X.s
        obtain ⟨fs, t1, t2, t3⟩ := kat_tups_of hp'
        refine kat_kind (s := { s with heap := h' }) (T := .type "int") t1 (by omega) (fun v hv => ?_) rfl hq
        obtain ⟨i, t, rfl⟩ := t3 v hv
        exact .now
      · have gx := paired_getD (dx := Value.none) (dy := rowAV default) hp i hi
        have gy := paired_getD (dx := Value.none) (dy := rowAV default) hp j hj
        rw [getD_mapR] at gx gy
        exact row_lt (s := { s with heap := h' }) (gx.keepS X.s) (gy.keepS X.s) hC
      · refine hQ _ _ ⟨D, _, rfl, hD, ?_⟩ ⟨h', s.toks, rfl, X⟩
        have := paired_idx (dx := Value.none) (dy := rowAV default) (hp.mono fun _ _ q => TIs.keepS q X.s) (sortIdx (fun i j => rowLt (ns.getD i default) (ns.getD j default)) vs.length) (fun i hi => sortIdx_lt (by omega) i hi)
        unfold sortRows sortBy
        rw [List.map_map]
        rw [← hlen]
        have e : (List.map (fun x => (List.map rowAV ns).getD x (rowAV default)) (sortIdx (fun i j => rowLt (ns.getD i default) (ns.getD j default)) vs.length)) = List.map (rowAV ∘ fun x => ns.getD x default) (sortIdx (fun i j => rowLt (ns.getD i default) (ns.getD j default)) vs.length) := List.map_congr_left fun i _ => getD_mapR ns i
        rw [← e]
        exact this
    · first | exact no_some h | cases h
  · first | exact no_some h | cases h

noncomputable def sortedKP : PV → Option PV
  | .list l => (strsP l).bind fun ns => if ns.length ≤ 5 then some (.list ((sortStrs ns).map .str)) else none
  | _ => none

theorem sortedK_ok {p r : PV} {v : Value} {q : Addr} (hf : ∀ (s' : Shared) v x, Ext s.heap s'.heap → AIs v (.str x) → Gives prog w A.in1.in1 (call (.ref q) [v]) (.atom (.str x)) s') (h : sortedKP p = some r) (hv : Is s.heap v p) :
    Gives prog w A (call (.builtin "sorted") [v] [(Str.ofString "key", .ref q)]) r s := by
  intro Q E hQ
  unfold sortedKP at h
  split at h
  · rw [Option.bind_eq_some_iff] at h
    obtain ⟨ns, hn, h⟩ := h
    split at h
    · rename_i h5
      cases h
      obtain ⟨T, vs, rfl, hl, hp⟩ := hv
      rw [strsP_eq hn] at hp
      have hlen := hp.length
      rw [List.length_map] at hlen
      refine call_function_entry_kw kind_sorted plain_sorted entry_sorted (ksk_s1 _ _) ?_
      unfold Builtin.«sorted»
      refine wpAny_bind (m := checkCount "sorted" 1 1 _) (wpAny_pure ?_)
      refine wpAny_bind (collect_list hl ?_ (by rw [sizeLine_is]; omega))
      refine wpAny_bind (wpAny_newList ?_ (by rw [sizeLine_is]; omega))
      have hsz : ((s.heap.push (seqObj "list" #[] 0)).update s.heap.objs.size (Obj.mapSeq (· ++ vs.toArray))).objs.size = s.heap.objs.size + 1 := by
        rw [Heap.size_update, size_push']
      have hoL : (((s.heap.push (seqObj "list" #[] 0)).update s.heap.objs.size (Obj.mapSeq (· ++ vs.toArray))).push (seqObj "list" vs.toArray 0)).get? (s.heap.objs.size + 1) = some (seqObj "list" vs.toArray 0) := by
        rw [← hsz]; exact Heap.get?_push_size _ rfl
      have keep : ∀ b o, s.heap.get? b = some o → (((s.heap.push (seqObj "list" #[] 0)).update s.heap.objs.size (Obj.mapSeq (· ++ vs.toArray))).push (seqObj "list" vs.toArray 0)).get? b = some o := fun b o q => by
        have hlt : b < s.heap.objs.size := Heap.lt_size q
        rw [Heap.get?_push_ne _ _ _ (by rw [hsz]; exact Nat.ne_of_lt (Nat.lt_succ_of_lt hlt)), Heap.get?_update_ne _ _ _ _ (Nat.ne_of_lt hlt), Heap.get?_push_ne _ _ _ (Nat.ne_of_lt hlt)]
        exact q
      show wpAny _ _ _ _ _ { s with heap := ((s.heap.push (seqObj "list" #[] 0)).update s.heap.objs.size (Obj.mapSeq (· ++ vs.toArray))).push (seqObj "list" vs.toArray 0) }
      rw [hsz]
      have up : ∀ h', (∀ b o, b ≠ s.heap.objs.size + 1 → (((s.heap.push (seqObj "list" #[] 0)).update s.heap.objs.size (Obj.mapSeq (· ++ vs.toArray))).push (seqObj "list" vs.toArray 0)).get? b = some o → h'.get? b = some o) → Ext s.heap h' := fun h' k b o e => k b o (fun eb => by have h1 := Heap.lt_size e; rw [eb] at h1; exact absurd h1 (Nat.not_lt.mpr (Nat.le_succ _))) (keep b o e)
      refine wpAny_bind (wpAny_holding (wpAny_call_entry_kw slot_list_sort ⟨_, hoL, rfl⟩ entry_list_sort ?body (ksk_l1 _ _)))
      case body =>
        show wpAny (model prog w) A.in1.in1 (Builtin.«list.sort» ⟨[.ref (s.heap.objs.size + 1)], [(Str.ofString "key", .ref q)]⟩) _ _ _
        rw [ksk_t1]
        refine sort_keyed (s := { s with heap := ((s.heap.push (seqObj "list" #[] 0)).update s.heap.objs.size (Obj.mapSeq (· ++ vs.toArray))).push (seqObj "list" vs.toArray 0) }) (xs := ns) hoL (by omega) hp
          (fun s' v x k hv => hf s' v x (up s'.heap k) hv) fun h' tk k hD => ?_
        refine ⟨_, rfl, wpAny_pure ⟨_, rfl, hQ _ _ ⟨_, _, rfl, hD, ?_⟩ ⟨h', tk, rfl, up h' k⟩⟩⟩
        have := paired_idx (dx := Value.none) (dy := AV.str default) hp (sortIdx (fun i j => strLt (ns.getD i default) (ns.getD j default)) vs.length) (fun i hi => sortIdx_lt (by omega) i hi)
        unfold sortStrs sortBy
        rw [List.map_map]
        rw [← hlen]
        have e : (List.map (fun x => (List.map AV.str ns).getD x (AV.str default)) (sortIdx (fun i j => strLt (ns.getD i default) (ns.getD j default)) vs.length)) = List.map (AV.str ∘ fun x => ns.getD x default) (sortIdx (fun i j => strLt (ns.getD i default) (ns.getD j default)) vs.length) := List.map_congr_left fun i _ => getD_mapS ns i
        rw [← e]
        exact this
    · first | exact no_some h | cases h
  · first | exact no_some h | cases h
end
end Mine

end

section -- Sre1
open PySem PySem.W PyProof.Rows PySem.Sre
namespace Mine

/-- the machine ends within n steps, in a state that P holds of -/
noncomputable def Ends (n : Nat) (m : M) (P : M → Prop) : Prop := ∃ k, k ≤ n ∧ (M.runFor k m).outcome.isSome = true ∧ P (M.runFor k m)

theorem Ends.mono {n n' : Nat} {m : M} {P P' : M → Prop} (h : Ends n m P) (hn : n ≤ n') (hp : ∀ m, P m → P' m) : Ends n' m P' := by
  obtain ⟨k, h1, h2, h3⟩ := h
  exact ⟨k, Nat.le_trans h1 hn, h2, hp _ h3⟩
theorem Ends.now {n : Nat} {m : M} {P : M → Prop} (h : m.outcome.isSome = true) (hp : P m) : Ends n m P := ⟨0, Nat.zero_le _, h, hp⟩
theorem Ends.next {n : Nat} {m m' : M} {P : M → Prop} (e : m.step = m') (ho : m.outcome = none) (h : Ends n m' P) : Ends (n + 1) m P := by
  obtain ⟨k, h1, h2, h3⟩ := h
  subst e
  have e1 : M.runFor (k + 1) m = M.runFor k m.step := by
    show (if m.outcome.isSome = true then m else M.runFor k m.step) = _
    rw [ho]; rfl
  exact ⟨k + 1, Nat.succ_le_succ h1, by rw [e1]; exact h2, by rw [e1]; exact h3⟩

theorem runFor_done {m : M} (h : m.outcome.isSome = true) : ∀ k, M.runFor k m = m
  | 0 => rfl
  | k + 1 => by
    show (if m.outcome.isSome = true then m else M.runFor k m.step) = _
    rw [if_pos h]
theorem runFor_add (a b : Nat) (m : M) : M.runFor (a + b) m = M.runFor b (M.runFor a m) := by
  induction a generalizing m with
  | zero => rw [Nat.zero_add]; rfl
  | succ a ih =>
    rw [Nat.succ_add]
    show (if m.outcome.isSome = true then m else M.runFor (a + b) m.step) = M.runFor b (if m.outcome.isSome = true then m else M.runFor a m.step)
    by_cases h : m.outcome.isSome = true
    · rw [if_pos h, if_pos h, runFor_done h]
    · rw [if_neg h, if_neg h, ih]

section steps
variable {m : M}
theorem st_run (ho : m.outcome = none) (ha : m.answer = none) (hp : m.pc < m.code.size) : m.step = m.exec := by
  unfold M.step
  rw [ho, ha]
  simp [hp]
theorem st_lit_yes (ho : m.outcome = none) (ha : m.answer = none) (hp : m.pc < m.code.size) (hw : ops[m.code.getD m.pc 0]? = some .LITERAL) (hl : m.pos < m.lim) (hc : m.text.getD m.pos 0 = m.code.getD (m.pc + 1) 0) :
    m.step = { m with seen := m.seen.add (m.word 0), pc := m.pc + 2, pos := m.pos + 1 } := by
  rw [st_run ho ha hp]
  unfold M.exec
  have hw' : ops[m.word 0]? = some .LITERAL := hw
  simp only [hw']
  rw [if_neg (Nat.not_le.mpr hl)]
  unfold accepts
  simp only [hw, hc, beq_self_eq_true]
  unfold itemWidth
  simp only [hw]
theorem st_lit_no (ho : m.outcome = none) (ha : m.answer = none) (hp : m.pc < m.code.size) (hw : ops[m.code.getD m.pc 0]? = some .LITERAL) (hc : m.pos < m.lim → m.text.getD m.pos 0 ≠ m.code.getD (m.pc + 1) 0) :
    m.step = { m with seen := m.seen.add (m.word 0), answer := some false } := by
  rw [st_run ho ha hp]
  unfold M.exec
  have hw' : ops[m.word 0]? = some .LITERAL := hw
  simp only [hw']
  by_cases hl : m.pos < m.lim
  · rw [if_neg (Nat.not_le.mpr hl)]
    unfold accepts
    have := beq_false_of_ne (hc hl)
    simp only [hw, this]
    rfl
  · rw [if_pos (Nat.not_lt.mp hl)]
    rfl
theorem st_jump (ho : m.outcome = none) (ha : m.answer = none) (hp : m.pc < m.code.size) (hw : ops[m.code.getD m.pc 0]? = some .JUMP) :
    m.step = { m with seen := m.seen.add (m.word 0), pc := m.pc + 1 + m.code.getD (m.pc + 1) 0 } := by
  rw [st_run ho ha hp]
  unfold M.exec
  have hw' : ops[m.word 0]? = some .JUMP := hw
  simp only [hw']
  rfl
theorem st_success (ho : m.outcome = none) (ha : m.answer = none) (hp : m.pc < m.code.size) (hw : ops[m.code.getD m.pc 0]? = some .SUCCESS) (h1 : m.wholeText = false) (h2 : m.mustAdvance = false) :
    m.step = { m with seen := m.seen.add (m.word 0), handed := m.pos, answer := some true } := by
  rw [st_run ho ha hp]
  unfold M.exec
  have hw' : ops[m.word 0]? = some .SUCCESS := hw
  simp only [hw', h1, h2, Bool.false_and, Bool.or_false, Bool.and_false, Bool.false_eq_true, if_false]
  rfl
theorem st_branch (ho : m.outcome = none) (ha : m.answer = none) (hp : m.pc < m.code.size) (hw : ops[m.code.getD m.pc 0]? = some .BRANCH) (hi : m.inner = none) (hn : (m.code.getD (m.pc + 1) 0 == 0) = false) (hwt : m.weight ≤ 100) :
    m.step = { m with seen := m.seen.add (m.word 0), frames := { wait := .nextBranch, pc := m.pc + 1, pos := m.pos, outermost := m.outermost, kept := { lastmark := m.lastmark, lastindex := m.lastindex } } :: m.frames, weight := m.weight + 1, pc := m.pc + 2, handed := m.pos } := by
  rw [st_run ho ha hp]
  unfold M.exec
  have hw' : ops[m.word 0]? = some .BRANCH := hw
  simp only [hw', hi]
  unfold M.alternative M.keep
  simp only [hn, Option.isSome_none, Bool.false_eq_true, if_false]
  unfold M.attempt
  simp only [Array.size_empty, Nat.add_zero]
  rw [if_neg (by omega)]
  rfl
theorem st_not (ho : m.outcome = none) (ha : m.answer = none) (hp : m.pc < m.code.size) (hw : ops[m.code.getD m.pc 0]? = some .ASSERT_NOT) (hi : m.inner = none) (hn : m.code.getD (m.pc + 2) 0 = 0) (hwt : m.weight ≤ 100) :
    m.step = { m with seen := m.seen.add (m.word 0), frames := { wait := .lookNot, pc := m.pc, pos := m.pos, outermost := m.outermost, kept := { lastmark := m.lastmark, lastindex := m.lastindex } } :: m.frames, weight := m.weight + 1, pc := m.pc + 3, pos := m.pos, handed := m.pos, outermost := false } := by
  rw [st_run ho ha hp]
  unfold M.exec
  have hw' : ops[m.word 0]? = some .ASSERT_NOT := hw
  have h2 : m.word 2 = 0 := hn
  simp only [hw']
  have h3 : M.word { m with seen := m.seen.add (m.word 0) } 2 = 0 := hn
  simp only [h3, Nat.not_lt_zero, if_false, if_true, Nat.sub_zero]
  simp only [hi, Option.isSome_none, Bool.and_false]
  unfold M.attempt M.keep
  simp only [Bool.false_eq_true, if_false, Array.size_empty, Nat.add_zero]
  rw [if_neg (by omega)]
  rfl
theorem st_at (ho : m.outcome = none) (ha : m.answer = none) (hp : m.pc < m.code.size) (hw : ops[m.code.getD m.pc 0]? = some .AT) (h1 : m.code.getD (m.pc + 1) 0 = 1) :
    m.step = (if (m.pos == 0 || m.text.getD (m.pos - 1) 0 == 10) = true then { m with seen := (m.seen.add (m.word 0)).add (43 + m.word 1), pc := m.pc + 2 } else { m with seen := (m.seen.add (m.word 0)).add (43 + m.word 1), answer := some false }) := by
  rw [st_run ho ha hp]
  unfold M.exec
  have hw' : ops[m.word 0]? = some .AT := hw
  simp only [hw']
  have h2 : M.word { m with seen := m.seen.add (m.word 0) } 1 = 1 := h1
  have h3 : m.word 1 = 1 := h1
  simp only [h2, h3]
  unfold M.isAt
  simp only
  by_cases c : (m.pos == 0 || m.text.getD (m.pos - 1) 0 == 10) = true
  · rw [if_pos c, if_pos c]
  · rw [if_neg c, if_neg c]; rfl
theorem st_end {y : Bool} (ho : m.outcome = none) (ha : m.answer = some y) (hf : m.frames = []) : m.step = { m with outcome := some (if y then .matched else .failed) } := by
  unfold M.step
  simp [ho, ha, hf]
theorem st_back {y : Bool} {f : PySem.Sre.Frame} {r : List PySem.Sre.Frame} (ho : m.outcome = none) (ha : m.answer = some y) (hf : m.frames = f :: r) : m.step = M.resume { m with answer := none, frames := r, weight := m.weight - (1 + f.kept.marks.size), pc := f.pc, pos := f.pos, outermost := f.outermost } f y := by
  unfold M.step
  simp [ho, ha, hf]
end steps
end Mine

end

section -- Sre2
open PySem PySem.W PyProof.Rows PySem.Sre
namespace Mine

section
variable {m : M} {f : PySem.Sre.Frame} {r : List PySem.Sre.Frame}
theorem st_yes (ho : m.outcome = none) (ha : m.answer = some true) (hf : m.frames = f :: r) (hw : f.wait = .nextStart ∨ f.wait = .nextBranch) :
    m.step = { m with answer := some true, frames := r, weight := m.weight - (1 + f.kept.marks.size), pc := f.pc, pos := f.pos, outermost := f.outermost } := by
  rw [st_back ho ha hf]
  unfold M.resume
  rcases hw with h | h <;> simp only [h] <;> rfl
theorem st_branch_no (ho : m.outcome = none) (ha : m.answer = some false) (hf : m.frames = f :: r) (hw : f.wait = .nextBranch) (hk : f.kept.whole = false) (hm : f.kept.marks = #[]) (hn : (m.code.getD (f.pc + m.code.getD f.pc 0) 0 == 0) = false) (hwt : m.weight ≤ 100) :
    m.step = { m with answer := none, frames := { wait := .nextBranch, pc := f.pc + m.code.getD f.pc 0, pos := f.pos, outermost := f.outermost, kept := f.kept } :: r, weight := m.weight - 1 + 1, pc := f.pc + m.code.getD f.pc 0 + 1, pos := f.pos, handed := f.pos, outermost := f.outermost, lastmark := f.kept.lastmark, lastindex := f.kept.lastindex } := by
  rw [st_back ho ha hf]
  unfold M.resume
  simp only [hw, Bool.false_eq_true, if_false]
  unfold M.alternative M.putBack
  simp only [hn, hk, hm, Bool.false_eq_true, if_false]
  unfold M.attempt
  simp only [hm, Array.size_empty, Nat.add_zero]
  rw [if_neg (by omega)]
  rfl
theorem st_not_no (ho : m.outcome = none) (ha : m.answer = some false) (hf : m.frames = f :: r) (hw : f.wait = .lookNot) (hk : f.kept.whole = false) (hm : f.kept.marks = #[]) :
    m.step = { m with answer := none, frames := r, weight := m.weight - 1, pc := f.pc + 1 + m.code.getD (f.pc + 1) 0, pos := f.pos, outermost := f.outermost, lastmark := f.kept.lastmark, lastindex := f.kept.lastindex } := by
  rw [st_back ho ha hf]
  unfold M.resume
  simp only [hw, Bool.false_eq_true, if_false]
  unfold M.putBack
  simp only [hk, hm, Bool.false_eq_true, if_false]
  rfl
end

noncomputable def code2 : Array Nat := #[14, 9, 4, 1, 2, 16, 10, 16, 13, 0, 7, 7, 16, 13, 16, 10, 15, 18, 5, 16, 10, 15, 13, 11, 16, 13, 5, 5, 0, 16, 10, 1, 15, 2, 0, 1]

noncomputable def at2 (text : Array Nat) (lim ls s : Nat) (o : Bool) (sn : PySem.Sre.Seen) : M :=
  { code := code2, text, lim, start := s, lastStart := ls, pc := 10, pos := s, handed := s, outermost := o, marks := #[], frames := [{ wait := .nextStart, pc := 10, pos := s, outermost := o }], weight := 1, seen := sn }

theorem m2_crlf {text : Array Nat} {lim ls s : Nat} {o : Bool} {sn : PySem.Sre.Seen} (h0 : s < lim) (h1 : text.getD s 0 = 13) (h2 : s + 1 < lim) (h3 : text.getD (s + 1) 0 = 10) :
    Ends 30 (at2 text lim ls s o sn) fun m => (m.outcome matches some .matched) = true ∧ m.start = s ∧ m.handed = s + 2 := by
  unfold at2
  refine .next (st_branch rfl rfl (Nat.le_of_ble_eq_true rfl) rfl rfl rfl (Nat.le_of_ble_eq_true rfl)) rfl ?_
  dsimp only
  refine .next (st_lit_yes rfl rfl (Nat.le_of_ble_eq_true rfl) rfl h0 h1) rfl ?_
  dsimp only
  refine .next (st_lit_yes rfl rfl (Nat.le_of_ble_eq_true rfl) rfl h2 h3) rfl ?_
  dsimp only
  refine .next (st_jump rfl rfl (Nat.le_of_ble_eq_true rfl) rfl) rfl ?_
  dsimp only
  refine .next (st_success rfl rfl (Nat.le_of_ble_eq_true rfl) rfl rfl rfl) rfl ?_
  dsimp only
  refine .next (st_yes rfl rfl rfl (.inr rfl)) rfl ?_
  dsimp only
  refine .next (st_yes rfl rfl rfl (.inl rfl)) rfl ?_
  dsimp only
  refine .next (st_end rfl rfl rfl) rfl ?_
  dsimp only
  exact .now rfl ⟨rfl, rfl, rfl⟩

theorem m2_lf {text : Array Nat} {lim ls s : Nat} {o : Bool} {sn : PySem.Sre.Seen} (h0 : s < lim) (h1 : text.getD s 0 = 10) :
    Ends 30 (at2 text lim ls s o sn) fun m => (m.outcome matches some .matched) = true ∧ m.start = s ∧ m.handed = s + 1 := by
  unfold at2
  refine .next (st_branch rfl rfl (Nat.le_of_ble_eq_true rfl) rfl rfl rfl (Nat.le_of_ble_eq_true rfl)) rfl ?_
  dsimp only
  refine .next (st_lit_no rfl rfl (Nat.le_of_ble_eq_true rfl) rfl fun _ => by show text.getD s 0 ≠ 13; rw [h1]; decide) rfl ?_
  dsimp only
  refine .next (st_branch_no rfl rfl rfl rfl rfl rfl rfl (Nat.le_of_ble_eq_true rfl)) rfl ?_
  dsimp only
  refine .next (st_lit_yes rfl rfl (Nat.le_of_ble_eq_true rfl) rfl h0 h1) rfl ?_
  dsimp only
  refine .next (st_jump rfl rfl (Nat.le_of_ble_eq_true rfl) rfl) rfl ?_
  dsimp only
  refine .next (st_success rfl rfl (Nat.le_of_ble_eq_true rfl) rfl rfl rfl) rfl ?_
  dsimp only
  refine .next (st_yes rfl rfl rfl (.inr rfl)) rfl ?_
  dsimp only
  refine .next (st_yes rfl rfl rfl (.inl rfl)) rfl ?_
  dsimp only
  refine .next (st_end rfl rfl rfl) rfl ?_
  dsimp only
  exact .now rfl ⟨rfl, rfl, rfl⟩

theorem m2_cr {text : Array Nat} {lim ls s : Nat} {o : Bool} {sn : PySem.Sre.Seen} (h0 : s < lim) (h1 : text.getD s 0 = 13) (h2 : s + 1 < lim → text.getD (s + 1) 0 ≠ 10) :
    Ends 30 (at2 text lim ls s o sn) fun m => (m.outcome matches some .matched) = true ∧ m.start = s ∧ m.handed = s + 1 := by
  unfold at2
  refine .next (st_branch rfl rfl (Nat.le_of_ble_eq_true rfl) rfl rfl rfl (Nat.le_of_ble_eq_true rfl)) rfl ?_
  dsimp only
  refine .next (st_lit_yes rfl rfl (Nat.le_of_ble_eq_true rfl) rfl h0 h1) rfl ?_
  dsimp only
  refine .next (st_lit_no rfl rfl (Nat.le_of_ble_eq_true rfl) rfl h2) rfl ?_
  dsimp only
  refine .next (st_branch_no rfl rfl rfl rfl rfl rfl rfl (Nat.le_of_ble_eq_true rfl)) rfl ?_
  dsimp only
  refine .next (st_lit_no rfl rfl (Nat.le_of_ble_eq_true rfl) rfl fun _ => by show text.getD s 0 ≠ 10; rw [h1]; decide) rfl ?_
  dsimp only
  refine .next (st_branch_no rfl rfl rfl rfl rfl rfl rfl (Nat.le_of_ble_eq_true rfl)) rfl ?_
  dsimp only
  refine .next (st_lit_yes rfl rfl (Nat.le_of_ble_eq_true rfl) rfl h0 h1) rfl ?_
  dsimp only
  refine .next (st_not rfl rfl (Nat.le_of_ble_eq_true rfl) rfl rfl rfl (Nat.le_of_ble_eq_true rfl)) rfl ?_
  dsimp only
  refine .next (st_lit_no rfl rfl (Nat.le_of_ble_eq_true rfl) rfl h2) rfl ?_
  dsimp only
  refine .next (st_not_no rfl rfl rfl rfl rfl rfl) rfl ?_
  dsimp only
  refine .next (st_jump rfl rfl (Nat.le_of_ble_eq_true rfl) rfl) rfl ?_
  dsimp only
  refine .next (st_success rfl rfl (Nat.le_of_ble_eq_true rfl) rfl rfl rfl) rfl ?_
  dsimp only
  refine .next (st_yes rfl rfl rfl (.inr rfl)) rfl ?_
  dsimp only
  refine .next (st_yes rfl rfl rfl (.inl rfl)) rfl ?_
  dsimp only
  refine .next (st_end rfl rfl rfl) rfl ?_
  dsimp only
  exact .now rfl ⟨rfl, rfl, rfl⟩
end Mine

end

section -- Sre3
open PySem PySem.W PyProof.Rows PySem.Sre
namespace Mine

noncomputable def isSep (c : Nat) : Bool := c == 10 || c == 13

theorem inSet2 (c : Nat) (sn : PySem.Sre.Seen) : ∃ sn', inSet code2 c code2.size 5 true sn = .ok (isSep c, sn') := by
  show ∃ sn', inSet code2 c (33 + 3) 5 true sn = .ok (isSep c, sn')
  have e1 : code2.getD (5 + 0) 0 = 16 := rfl
  have e2 : code2.getD (5 + 1) 0 = 10 := rfl
  have e3 : code2.getD (7 + 0) 0 = 16 := rfl
  have e4 : code2.getD (7 + 1) 0 = 13 := rfl
  have e5 : code2.getD (9 + 0) 0 = 0 := rfl
  have o1 : ops[16]? = some .LITERAL := rfl
  have o2 : ops[0]? = some .FAILURE := rfl
  unfold isSep
  by_cases h1 : c = 10
  · subst h1
    refine ⟨sn.add 16, ?_⟩
    unfold inSet
    simp only [e1, e2, o1]
    rfl
  · have n1 : (c == 10) = false := beq_false_of_ne h1
    by_cases h2 : c = 13
    · subst h2
      refine ⟨(sn.add 16).add 16, ?_⟩
      unfold inSet
      simp only [e1, e2, o1]
      unfold inSet
      simp only [e3, e4, o1]
      rfl
    · have n2 : (c == 13) = false := beq_false_of_ne h2
      refine ⟨((sn.add 16).add 16).add 0, ?_⟩
      unfold inSet
      simp only [e1, e2, o1, n1, Bool.false_eq_true, if_false]
      unfold inSet
      simp only [e3, e4, o1, n2, Bool.false_eq_true, if_false]
      unfold inSet
      simp only [e5, o2]
      rfl

theorem admitted2 {m : M} (hc : m.code = code2) : ∀ (fuel s : Nat) (sn : PySem.Sre.Seen), m.lim < s + fuel →
    (∃ sn', M.admitted m fuel s sn = .ok (none, sn') ∧ ∀ i, s ≤ i → i < m.lim → isSep (m.text.getD i 0) = false) ∨
    (∃ s' sn', M.admitted m fuel s sn = .ok (some s', sn') ∧ s ≤ s' ∧ s' < m.lim ∧ isSep (m.text.getD s' 0) = true ∧ ∀ i, s ≤ i → i < s' → isSep (m.text.getD i 0) = false)
  | 0, s, sn, hf => .inl ⟨sn, rfl, fun i h1 h2 => by omega⟩
  | fuel + 1, s, sn, hf => by
    unfold M.admitted
    by_cases h : s ≥ m.lim
    · rw [if_pos h]
      exact .inl ⟨sn, rfl, fun i h1 h2 => by omega⟩
    · rw [if_neg h, hc]
      obtain ⟨sn', e⟩ := inSet2 (m.text.getD s 0) sn
      rw [e]
      cases hs : isSep (m.text.getD s 0) with
      | true => exact .inr ⟨s, sn', rfl, Nat.le_refl _, by omega, hs, fun i h1 h2 => by omega⟩
      | false =>
        rcases admitted2 hc fuel (s + 1) sn' (by omega) with ⟨sn2, e2, h2⟩ | ⟨s', sn2, e2, h1, h2, h3, h4⟩
        · refine .inl ⟨sn2, e2, fun i hi hl => ?_⟩
          by_cases hi' : i = s
          · rw [hi']; exact hs
          · exact h2 i (by omega) hl
        · refine .inr ⟨s', sn2, e2, by omega, h2, h3, fun i hi hl => ?_⟩
          by_cases hi' : i = s
          · rw [hi']; exact hs
          · exact h4 i (by omega) hl

/-- what a search with the second pattern finds -/
noncomputable def Found2 (text : Array Nat) (pos : Nat) (m : M) : Prop :=
  ((m.outcome matches some .failed) = true ∧ ∀ i, pos ≤ i → i < text.size → isSep (text.getD i 0) = false) ∨
  ((m.outcome matches some .matched) = true ∧ pos ≤ m.start ∧ m.start < text.size ∧ (∀ i, pos ≤ i → i < m.start → isSep (text.getD i 0) = false) ∧
    ((text.getD m.start 0 = 13 ∧ m.start + 1 < text.size ∧ text.getD (m.start + 1) 0 = 10 ∧ m.handed = m.start + 2) ∨
     (text.getD m.start 0 = 10 ∧ m.handed = m.start + 1) ∨
     (text.getD m.start 0 = 13 ∧ (m.start + 1 < text.size → text.getD (m.start + 1) 0 ≠ 10) ∧ m.handed = m.start + 1)))

theorem search2 {text : Array Nat} {pos : Nat} : Ends 40 (forSearch code2 text 0 pos text.size false) (Found2 text pos) := by
  have e : forSearch code2 text 0 pos text.size false = (
    let m : M := { code := code2, text, lim := text.size, start := pos, pc := 10, pos, handed := pos, marks := #[], mustAdvance := false, seen := ({} : PySem.Sre.Seen).add 14 }
    if (decide (pos > text.size) || decide (text.size - pos < 1)) = true then m.say false else { m with lastStart := text.size }.attemptFrom pos true) := rfl
  rw [e]
  dsimp only
  by_cases h : (decide (pos > text.size) || decide (text.size - pos < 1)) = true
  · rw [if_pos h]
    simp only [Bool.or_eq_true, decide_eq_true_eq] at h
    refine .next (st_end rfl rfl rfl) rfl ?_
    exact .now rfl (.inl ⟨rfl, fun i h1 h2 => by omega⟩)
  · rw [if_neg h]
    unfold M.attemptFrom
    have hf : M.hasFirstSet { code := code2, text := text, lim := text.size, start := pos, lastStart := text.size, pc := 10, pos := pos, handed := pos, marks := #[], mustAdvance := false, seen := ({} : PySem.Sre.Seen).add 14 } = true := rfl
    rw [hf]
    simp only [Bool.not_true, Bool.false_eq_true, if_false]
    rcases admitted2 (m := { code := code2, text := text, lim := text.size, start := pos, lastStart := text.size, pc := 10, pos := pos, handed := pos, marks := #[], mustAdvance := false, seen := ({} : PySem.Sre.Seen).add 14 }) rfl (text.size + 1 - pos) pos (({} : PySem.Sre.Seen).add 14)
        (by show text.size < pos + (text.size + 1 - pos); omega) with ⟨sn2, e2, h2⟩ | ⟨s', sn2, e2, h1, h2, h3, h4⟩
    · rw [e2]
      refine .next (st_end rfl rfl rfl) rfl ?_
      exact .now rfl (.inl ⟨rfl, h2⟩)
    · rw [e2]
      show Ends 40 (at2 text text.size text.size s' true sn2) _
      dsimp only at h2 h3 h4
      unfold isSep at h3
      by_cases c1 : text.getD s' 0 = 10
      · refine (m2_lf h2 c1).mono (by decide) fun m ⟨q1, q2, q3⟩ => .inr ⟨q1, ?_⟩
        rw [q2, q3]
        exact ⟨h1, h2, h4, .inr (.inl ⟨c1, rfl⟩)⟩
      · have c2 : text.getD s' 0 = 13 := by
          rw [beq_false_of_ne c1, Bool.false_or] at h3
          exact beq_iff_eq.mp h3
        by_cases c3 : s' + 1 < text.size ∧ text.getD (s' + 1) 0 = 10
        · refine (m2_crlf h2 c2 c3.1 c3.2).mono (by decide) fun m ⟨q1, q2, q3⟩ => .inr ⟨q1, ?_⟩
          rw [q2, q3]
          exact ⟨h1, h2, h4, .inl ⟨c2, c3.1, c3.2, rfl⟩⟩
        · have c4 : s' + 1 < text.size → text.getD (s' + 1) 0 ≠ 10 := fun a b => c3 ⟨a, b⟩
          refine (m2_cr h2 c2 c4).mono (by decide) fun m ⟨q1, q2, q3⟩ => .inr ⟨q1, ?_⟩
          rw [q2, q3]
          exact ⟨h1, h2, h4, .inr (.inr ⟨c2, c4, rfl⟩)⟩
end Mine

end

section -- Sre4
open PySem PySem.W PyProof.Rows PySem.Sre
namespace Mine

noncomputable def code1 : Array Nat := #[14, 4, 0, 1, 1, 6, 1, 16, 46, 1]

noncomputable def hit1 (text : Array Nat) (i : Nat) : Bool := (i == 0 || text.getD (i - 1) 0 == 10) && text.getD i 0 == 46

noncomputable def at1 (text : Array Nat) (lim st s hd : Nat) (o : Bool) (sn : PySem.Sre.Seen) : M :=
  { code := code1, text, lim, start := st, lastStart := lim, pc := 5, pos := s, handed := hd, outermost := o, marks := #[], frames := [{ wait := .nextStart, pc := 5, pos := s, outermost := o }], weight := 1, seen := sn }

noncomputable def Found1 (text : Array Nat) (pos : Nat) (m : M) : Prop :=
  ((m.outcome matches some .failed) = true ∧ ∀ i, pos ≤ i → i < text.size → hit1 text i = false) ∨
  ((m.outcome matches some .matched) = true ∧ pos ≤ m.start ∧ m.start < text.size ∧ hit1 text m.start = true ∧ (∀ i, pos ≤ i → i < m.start → hit1 text i = false) ∧ m.handed = m.start + 1)

theorem attemptFrom_plain {m : M} {s : Nat} {b : Bool} (hc : m.code = code1) : m.attemptFrom s b = m.attemptAt s b := by
  unfold M.attemptFrom
  have h1 : m.hasFirstSet = false := by unfold M.hasFirstSet; rw [hc]; rfl
  rw [h1]
  rfl

theorem st_start_no {m : M} {f : PySem.Sre.Frame} (ho : m.outcome = none) (ha : m.answer = some false) (hf : m.frames = [f]) (hw : f.wait = .nextStart) (hc : m.code = code1) (hp : f.pc = 5) (hwt : m.weight = 1) (hk : f.kept.marks = #[]) :
    m.step = (if f.pos < m.lastStart then { m with answer := none, mustAdvance := false, start := f.pos + 1, lastmark := -1, lastindex := -1, frames := [{ wait := .nextStart, pc := 5, pos := f.pos + 1, outermost := false }], weight := 1, pc := 5, pos := f.pos + 1, handed := f.pos + 1, outermost := false }
      else { m with answer := some false, frames := [], weight := 0, pc := f.pc, pos := f.pos, outermost := f.outermost }) := by
  rw [st_back ho ha hf]
  unfold M.resume
  simp only [hw, Bool.false_eq_true, if_false]
  by_cases c : f.pos < m.lastStart
  · rw [if_pos c, if_pos c]
    rw [attemptFrom_plain (by exact hc)]
    unfold M.attemptAt M.attempt
    simp only [hwt, hk, hp, Array.size_empty]
    rfl
  · rw [if_neg c, if_neg c]
    simp only [hwt, hk, Array.size_empty]
    rfl

theorem search1_at {text : Array Nat} : ∀ (d s : Nat) (o : Bool) (sn : PySem.Sre.Seen), text.size - s = d → s ≤ text.size → Ends (10 * d + 20) (at1 text text.size s s s o sn) (Found1 text s) := by
  intro d
  induction d with
  | zero =>
    intro s o sn hd hs
    have hs' : s = text.size := by omega
    have last : ∀ (n : Nat) (sn' : PySem.Sre.Seen) (pc : Nat), Ends (n + 2) { at1 text text.size s s s o sn with pc := pc, seen := sn', answer := some false } (Found1 text s) := fun n sn' pc => by
      unfold at1
      refine .next (st_start_no rfl rfl rfl rfl rfl rfl rfl rfl) rfl ?_
      dsimp only
      rw [if_neg (by omega)]
      refine .next (st_end rfl rfl rfl) rfl ?_
      exact .now rfl (.inl ⟨rfl, fun i h1 h2 => by omega⟩)
    unfold at1
    refine .next (st_at rfl rfl (Nat.le_of_ble_eq_true rfl) rfl rfl) rfl ?_
    dsimp only
    by_cases c : (s == 0 || text.getD (s - 1) 0 == 10) = true
    · rw [if_pos c]
      refine .next (st_lit_no rfl rfl (Nat.le_of_ble_eq_true rfl) rfl fun h => absurd h (by dsimp only; omega)) rfl ?_
      exact (last 10 _ 7).mono (by omega) fun _ h => h
    · rw [if_neg c]
      exact (last 10 _ 5).mono (by omega) fun _ h => h
  | succ d ih =>
    intro s o sn hd hs
    have hs' : s < text.size := by omega
    have more : hit1 text s = false → ∀ (sn' : PySem.Sre.Seen) (pc : Nat), Ends (10 * d + 21) { at1 text text.size s s s o sn with pc := pc, seen := sn', answer := some false } (Found1 text s) := fun hn sn' pc => by
      unfold at1
      refine .next (st_start_no rfl rfl rfl rfl rfl rfl rfl rfl) rfl ?_
      dsimp only
      rw [if_pos hs']
      refine (ih (s + 1) false sn' (by omega) (by omega)).mono (Nat.le_refl _) fun m h => ?_
      have cov : ∀ i, s ≤ i → i ≠ s → s + 1 ≤ i := fun i a b => by omega
      rcases h with ⟨q1, q2⟩ | ⟨q1, q2, q3, q4, q5, q6⟩
      · refine .inl ⟨q1, fun i hi hl => ?_⟩
        by_cases e : i = s
        · rw [e]; exact hn
        · exact q2 i (cov i hi e) hl
      · refine .inr ⟨q1, by omega, q3, q4, fun i hi hl => ?_, q6⟩
        by_cases e : i = s
        · rw [e]; exact hn
        · exact q5 i (cov i hi e) hl
    unfold at1
    refine .next (st_at rfl rfl (Nat.le_of_ble_eq_true rfl) rfl rfl) rfl ?_
    dsimp only
    by_cases c : (s == 0 || text.getD (s - 1) 0 == 10) = true
    · rw [if_pos c]
      by_cases c2 : text.getD s 0 = 46
      · have hh : hit1 text s = true := by unfold hit1; rw [c, c2]; rfl
        refine .next (st_lit_yes rfl rfl (Nat.le_of_ble_eq_true rfl) rfl hs' c2) rfl ?_
        dsimp only
        refine .next (st_success rfl rfl (Nat.le_of_ble_eq_true rfl) rfl rfl rfl) rfl ?_
        dsimp only
        refine .next (st_yes rfl rfl rfl (.inl rfl)) rfl ?_
        dsimp only
        refine .next (st_end rfl rfl rfl) rfl ?_
        exact .now rfl (.inr ⟨rfl, Nat.le_refl _, hs', hh, fun i h1 h2 => absurd h2 (Nat.not_lt.mpr h1), rfl⟩)
      · have hh : hit1 text s = false := by unfold hit1; rw [beq_false_of_ne c2, Bool.and_false]
        refine .next (st_lit_no rfl rfl (Nat.le_of_ble_eq_true rfl) rfl fun _ => c2) rfl ?_
        exact (more hh _ 7).mono (by omega) fun _ h => h
    · rw [if_neg c]
      have hh : hit1 text s = false := by unfold hit1; rw [Bool.not_eq_true] at c; rw [c, Bool.false_and]
      exact (more hh _ 5).mono (by omega) fun _ h => h

theorem search1 {text : Array Nat} {pos : Nat} (hp : pos ≤ text.size) : Ends (10 * text.size + 30) (forSearch code1 text 0 pos text.size false) (Found1 text pos) := by
  have e : forSearch code1 text 0 pos text.size false = (
    let m : M := { code := code1, text, lim := text.size, start := pos, pc := 5, pos, handed := pos, marks := #[], mustAdvance := false, seen := ({} : PySem.Sre.Seen).add 14 }
    if (decide (pos > text.size) || decide (text.size - pos < 1)) = true then m.say false else { m with lastStart := text.size }.attemptFrom pos true) := rfl
  rw [e]
  dsimp only
  by_cases h : (decide (pos > text.size) || decide (text.size - pos < 1)) = true
  · rw [if_pos h]
    simp only [Bool.or_eq_true, decide_eq_true_eq] at h
    refine .next (st_end rfl rfl rfl) rfl ?_
    exact .now rfl (.inl ⟨rfl, fun i h1 h2 => by omega⟩)
  · rw [if_neg h]
    show Ends _ (at1 text text.size pos pos pos true (({} : PySem.Sre.Seen).add 14)) _
    exact (search1_at (text.size - pos) pos true _ rfl hp).mono (by omega) fun _ h => h
end Mine

end

section -- Sre5
open PySem PySem.W PyProof.Rows PySem.Sre PySem.Builtin.Re
namespace Mine

section
variable {prog : Program} {w : World} {A : Around} {E : Value → Shared → Prop} {s : Shared}

theorem drive_ok {P : M → Prop} {Q : M → Shared → Prop} : ∀ (turns n : Nat) (m : M), n < 4 * turns → Ends n m P → (∀ m', m'.outcome.isSome = true → P m' → Q m' s) → wpAny (model prog w) A (reDrive turns m) Q E s
  | 0, n, m, hn, _, _ => by omega
  | turns + 1, n, m, hn, ⟨k, hk, ho, hp⟩, hQ => by
    show wpAny (model prog w) A (if (m.runFor 4).outcome.isSome = true then pure (m.runFor 4) else do let _ ← rule "sre.turn"; reDrive turns (m.runFor 4)) Q E s
    by_cases h : (m.runFor 4).outcome.isSome = true
    · rw [if_pos h]
      have e : m.runFor 4 = m.runFor k := by
        by_cases h4 : k ≤ 4
        · have : M.runFor (k + (4 - k)) m = M.runFor (4 - k) (M.runFor k m) := runFor_add k (4 - k) m
          rw [show k + (4 - k) = 4 by omega, runFor_done ho] at this
          exact this
        · have : M.runFor (4 + (k - 4)) m = M.runFor (k - 4) (M.runFor 4 m) := runFor_add 4 (k - 4) m
          rw [show 4 + (k - 4) = k by omega, runFor_done h] at this
          exact this.symm
      rw [e]
      exact wpAny_pure (hQ _ ho hp)
    · rw [if_neg h]
      have h4 : 4 < k := by
        apply Nat.lt_of_not_le
        intro h4
        have : M.runFor (k + (4 - k)) m = M.runFor (4 - k) (M.runFor k m) := runFor_add k (4 - k) m
        rw [show k + (4 - k) = 4 by omega, runFor_done ho] at this
        rw [this] at h
        exact h ho
      have e : M.runFor (4 + (k - 4)) m = M.runFor (k - 4) (M.runFor 4 m) := runFor_add 4 (k - 4) m
      rw [show 4 + (k - 4) = k by omega] at e
      refine wpAny_bind (wpAny_rule ?_)
      refine drive_ok turns (n - 4) (m.runFor 4) (by omega) ⟨k - 4, by omega, ?_, ?_⟩ hQ
      · rw [← e]; exact ho
      · rw [← e]; exact hp

theorem rules_ok {b : Nat → Bool} {f : Nat → String} {Q : PUnit → Shared → Prop} (h : Q ⟨⟩ s) : ∀ (l : List Nat), wpAny (model prog w) A (forIn l PUnit.unit fun i _ => do
    if b i = true then let _ ← rule (f i); pure (ForInStep.yield PUnit.unit) else pure (ForInStep.yield PUnit.unit)) Q E s
  | [] => by rw [List.forIn_nil]; exact wpAny_pure h
  | i :: r => by
    rw [List.forIn_cons]
    refine wpAny_bind ?_
    by_cases c : b i = true
    · rw [if_pos c]
      exact wpAny_bind (wpAny_rule (wpAny_pure (rules_ok h r)))
    · rw [if_neg c]
      exact wpAny_pure (rules_ok h r)

noncomputable def outOfM (m : M) : Option M := match m.outcome with
  | some .matched => some m
  | _ => none

theorem runToEnd_ok {P : M → Prop} {Q : Option M → Shared → Prop} {n : Nat} {m : M} (hn : n < 4 * 2 ^ 64) (h : Ends n m P) (hQ : ∀ m', P m' → ((m'.outcome matches some .matched) = true → Q (some m') s) ∧ ((m'.outcome matches some .failed) = true → Q none s) ∧ ((m'.outcome matches some .matched) = true ∨ (m'.outcome matches some .failed) = true)) :
    wpAny (model prog w) A (reRunToEnd m) Q E s := by
  unfold reRunToEnd
  refine wpAny_bind (drive_ok _ n m hn h fun m' ho hp => ?_)
  refine wpAny_bind (rules_ok ?_ _)
  obtain ⟨h1, h2, h3⟩ := hQ m' hp
  cases hc : m'.outcome with
  | none => rw [hc] at ho; cases ho
  | some o =>
    cases o with
    | matched => exact wpAny_pure (h1 (by rw [hc]))
    | failed => exact wpAny_pure (h2 (by rw [hc]))
    | stuck why => rw [hc] at h3; rcases h3 with h3 | h3 <;> cases h3
end
end Mine

end

section -- Fact1
open PySem PySem.W PyProof.Rows
set_option maxRecDepth 100000
namespace Mine

theorem slot_sub : Slot "re.Pattern" "sub" "re.Pattern.sub" :=
  .of (owner := "re.Pattern") (n := "sub") (by rw [typeLookup_type, builtinLookup_eq_fast]; kernel_rfl) (by decide +kernel) (by decide +kernel) (by decide +kernel)
    (by first | exact .inl (by decide +kernel) | exact .inr (by decide +kernel)) (by rw [isSubtype_type]; kernel_rfl)
theorem type_sub : typeOf (.builtin "re.Pattern.sub") = pure (.type "method_descriptor") := by show builtinType _ = _; rw [builtinType_eq_fast]; kernel_rfl
theorem entry_sub : entryFor table "re.Pattern.sub" = some Builtin.«re.Pattern.sub» := entryFor_of_tree (by kernel_rfl)
theorem entry_subloop : entryFor table "re.Pattern.sub.loop" = some Builtin.«re.Pattern.sub.loop» := entryFor_of_tree (by kernel_rfl)
theorem entry_bjoin : entryFor table "bytes.join" = some Builtin.«bytes.join» := entryFor_of_tree (by kernel_rfl)
theorem slot_bjoin : Slot "bytes" "join" "bytes.join" :=
  .of (owner := "bytes") (n := "join") (by rw [typeLookup_type, builtinLookup_eq_fast]; kernel_rfl) (by decide +kernel) (by decide +kernel) (by decide +kernel)
    (by first | exact .inl (by decide +kernel) | exact .inr (by decide +kernel)) (by rw [isSubtype_type]; kernel_rfl)
theorem args_sub (a b c : Value) : argsOk "re.Pattern.sub" ⟨[a, b, c], []⟩ := by unfold argsOk; kernel_rfl
theorem args_bjoin (a b : Value) : argsOk "bytes.join" ⟨[a, b], []⟩ := by unfold argsOk; kernel_rfl
end Mine

end

section -- Sub1
open PySem PySem.W PyProof.Rows PySem.Sre PySem.Builtin.Re
namespace Mine

structure PatIs (h : Heap) (a : Addr) (code : Array Nat) (kind : Nat) : Prop where
  ex : ∃ o fs c oc xs n, h.get? a = some o ∧ o.cls = .type "re.Pattern" ∧ o.dict = none ∧ o.data = .fields fs ∧ reRawNat (fs.getD 6 .none) = kind ∧ reRawNat (fs.getD 2 .none) = 0 ∧ fs.getD 5 .none = .ref c ∧ h.get? c = some oc ∧ oc.data = .seq xs n ∧ (xs.map reRawOf).map (·.toNat) = code

section
variable {prog : Program} {w : World} {A : Around} {E : Value → Shared → Prop} {s : Shared}

theorem target_str {a : Addr} {code : Array Nat} {x : Str} {t : Tok} {Q : ReTarget → Shared → Prop} (P : PatIs s.heap a code 0)
    (h : Q { pattern := .ref a, string := .str x t, code, text := x.cps, kind := 0, groups := 0, pos := 0, lim := x.cps.size } s) : wpAny (model prog w) A (reWholeTarget (.ref a) (.str x t)) Q E s := by
  obtain ⟨o, fs, c, oc, xs, n, p1, p2, p3, p4, p5, p6, p7, p8, p9, p10⟩ := P.ex
  unfold reWholeTarget
  refine wpAny_bind (wpAny_fieldsOf p1 p4 ?_)
  refine wpAny_bind (wpAny_bind (wpAny_pure (wpAny_pure ?_)))
  dsimp only
  rw [p5]
  simp only [Nat.reduceBEq, Bool.and_false, Bool.false_and, Bool.false_eq_true, if_false]
  refine wpAny_bind (wpAny_pure ?_)
  refine wpAny_bind ?_
  unfold reRawItems
  rw [p7]
  refine wpAny_bind ?_
  unfold seqItems?
  refine wpAny_bind (wpAny_load p8 ?_)
  rw [p9]
  refine wpAny_pure (wpAny_pure (wpAny_pure ?_))
  rw [p6, Option.getD_some, p10]
  exact h

theorem target_bytes {a : Addr} {code : Array Nat} {x : Array UInt8} {t : Tok} {Q : ReTarget → Shared → Prop} (P : PatIs s.heap a code 1)
    (h : Q { pattern := .ref a, string := .bytes x t, code, text := x.map (·.toNat), kind := 1, groups := 0, pos := 0, lim := (x.map (·.toNat)).size } s) : wpAny (model prog w) A (reWholeTarget (.ref a) (.bytes x t)) Q E s := by
  obtain ⟨o, fs, c, oc, xs, n, p1, p2, p3, p4, p5, p6, p7, p8, p9, p10⟩ := P.ex
  unfold reWholeTarget
  refine wpAny_bind (wpAny_fieldsOf p1 p4 ?_)
  refine wpAny_bind ?_
  unfold reTextOf
  refine wpAny_bind (m := asStr? (.bytes x t)) (wpAny_of_eq (a := none) rfl ?_)
  dsimp only
  refine wpAny_bind (wpAny_of_eq KBy.quiet_eq (wpAny_pure ?_))
  dsimp only
  rw [p5]
  simp only [Nat.reduceBEq, Bool.and_false, Bool.false_and, Bool.false_eq_true, if_false]
  refine wpAny_bind ?_
  unfold reNoCollectionInside
  simp only [Nat.reduceBEq, if_true]
  refine wpAny_bind (wpAny_of_eq KBy.isInstance_eq ?_)
  simp only [Bool.not_true, Bool.false_eq_true, if_false]
  refine wpAny_pure ?_
  refine wpAny_bind ?_
  unfold reRawItems
  rw [p7]
  refine wpAny_bind ?_
  unfold seqItems?
  refine wpAny_bind (wpAny_load p8 ?_)
  rw [p9]
  refine wpAny_pure (wpAny_pure (wpAny_pure ?_))
  rw [p6, Option.getD_some, p10]
  exact h
end
end Mine

end

section -- Sub2
open PySem PySem.W PyProof.Rows PySem.Sre PySem.Builtin.Re
namespace Mine

/-- what the second pattern's sub makes of a text; the flag says that a CR has just gone -/
noncomputable def fixA : Bool → List Nat → List Nat
  | _, [] => []
  | b, c :: r => if c = 13 then 13 :: 10 :: fixA true r else if c = 10 then (if b then fixA false r else 13 :: 10 :: fixA false r) else c :: fixA false r
noncomputable def fix2 (l : List Nat) : List Nat := fixA false l

theorem fix2_nil : fix2 [] = [] := rfl
theorem fix2_crlf (r : List Nat) : fix2 (13 :: 10 :: r) = 13 :: 10 :: fix2 r := by simp [fix2, fixA]
theorem fix2_lf (r : List Nat) : fix2 (10 :: r) = 13 :: 10 :: fix2 r := by simp [fix2, fixA]
theorem fix2_cr (r : List Nat) (h : ∀ r', r ≠ 10 :: r') : fix2 (13 :: r) = 13 :: 10 :: fix2 r := by
  simp only [fix2, fixA, if_true]
  match r, h with
  | [], _ => rfl
  | c :: r', h =>
    have hc : c ≠ 10 := fun e => h r' (by rw [e])
    unfold fixA
    simp only [if_neg hc]
theorem fix2_other (c : Nat) (r : List Nat) (h : isSep c = false) : fix2 (c :: r) = c :: fix2 r := by
  unfold isSep at h
  simp at h
  unfold fix2
  rw [fixA, if_neg h.2, if_neg h.1]
theorem fix2_pre : ∀ (p r : List Nat), (∀ c ∈ p, isSep c = false) → fix2 (p ++ r) = p ++ fix2 r
  | [], r, _ => rfl
  | c :: p, r, h => by
    rw [List.cons_append, fix2_other c _ (h c (.head _)), fix2_pre p r fun d hd => h d (.tail _ hd)]
    rfl
theorem fix2_id (p : List Nat) (h : ∀ c ∈ p, isSep c = false) : fix2 p = p := by
  have := fix2_pre p [] h
  rwa [List.append_nil, fix2_nil, List.append_nil] at this

noncomputable def flat (l : List Str) : List Nat := l.flatMap (·.cps.toList)
theorem flat_snoc (l : List Str) (x : Str) : flat (l ++ [x]) = flat l ++ x.cps.toList := by simp [flat]
theorem join_flat (l : List Str) : (Txt.join ⟨#[]⟩ l).cps.toList = flat l := by
  have key : ∀ (r : List Str) (acc : Array Nat), (r.foldl (fun acc p => acc ++ (#[] : Array Nat) ++ p.cps) acc).toList = acc.toList ++ flat r := by
    intro r
    induction r with
    | nil => intro acc; simp [flat]
    | cons a r ih => intro acc; rw [List.foldl_cons, ih]; simp [flat]
  show ((l.drop 1).foldl (fun acc p => acc ++ (#[] : Array Nat) ++ p.cps) (l.headD Str.empty).cps).toList = flat l
  rw [key]
  cases l with
  | nil => rfl
  | cons a r => simp [flat]

theorem extract_drop (x : Array Nat) (a b : Nat) (hb : b ≤ x.size) : (x.extract a b).toList = (x.toList.drop a).take (b - a) := by
  simp [Array.toList_extract, List.extract_eq_drop_take]
theorem drop_split (l : List Nat) (a b : Nat) (h : a ≤ b) : l.drop a = (l.drop a).take (b - a) ++ l.drop b := by
  have := (List.take_append_drop (b - a) (l.drop a)).symm
  rwa [List.drop_drop, show a + (b - a) = b by omega] at this
theorem getD_drop (x : Array Nat) (i : Nat) (h : i < x.size) : x.toList.drop i = x.getD i 0 :: x.toList.drop (i + 1) := by
  rw [List.drop_eq_getElem_cons (by simpa using h)]
  simp [Array.getD, h]
theorem mem_take_drop (x : Array Nat) (a b : Nat) (P : Nat → Prop) (h : ∀ i, a ≤ i → i < b → i < x.size → P (x.getD i 0)) : ∀ c ∈ (x.toList.drop a).take (b - a), P c := by
  intro c hc
  rw [List.mem_iff_getElem] at hc
  obtain ⟨i, hi, e⟩ := hc
  rw [List.length_take, List.length_drop, Array.length_toList] at hi
  rw [List.getElem_take, List.getElem_drop] at e
  have := h (a + i) (by omega) (by omega) (by omega)
  rw [← e]
  have hx : a + i < x.size := by omega
  simpa [Array.getD, hx] using this
end Mine

end

section -- Sub3
open PySem PySem.W PyProof.Rows PySem.Sre PySem.Builtin.Re
namespace Mine

noncomputable def Bt (L : Addr) (h h' : Heap) : Prop := ∀ b o, b ≠ L → h.get? b = some o → h'.get? b = some o
theorem Bt.refl (L : Addr) (h : Heap) : Bt L h h := fun _ _ _ e => e
theorem Bt.trans {L : Addr} {a b c : Heap} (x : Bt L a b) (y : Bt L b c) : Bt L a c := fun d o hd e => y d o hd (x d o hd e)
theorem Bt.upd {L : Addr} {h : Heap} {f : Obj → Obj} : Bt L h (h.update L f) := fun _ _ hb e => ext_upd _ _ hb e

noncomputable def crlfS : Str := ⟨#[13, 10]⟩

section
variable {prog : Program} {w : World}

theorem plain_subloop : plainId "re.Pattern.sub.loop" = true := by decide +kernel

theorem push_at {A : Around} {E : Value → Shared → Prop} {s : Shared} {L : Addr} {vs : List Value} {e : Nat} {v : Value} {Q : Unit → Shared → Prop} (ho : s.heap.get? L = some (seqObj "list" (List.toArray vs) e)) (hz : vs.length ≤ 1000000)
    (h : ∀ h' e', Bt L s.heap h' → h'.get? L = some (seqObj "list" (List.toArray (vs ++ [v])) e') → Q () { s with heap := h' }) : wpAny (model prog w) A (updateSeq L (·.push v)) Q E s := by
  have ea : (List.toArray vs).push v = List.toArray (vs ++ [v]) := by simp
  have hc := get?_update_seq ho (·.push v)
  rw [ea] at hc
  exact wpAny_updateSeq ho rfl (h _ _ Bt.upd hc) (by rw [List.size_toArray, sizeLine_is]; omega) (by rw [Array.size_push, List.size_toArray, sizeLine_is]; omega)

theorem not_both {o : Option PySem.Sre.Outcome} : (o matches some .matched) = true → (o matches some .failed) = true → False := by
  intro h h'
  cases o with
  | none => first | exact no_some h | cases h
  | some o =>
    cases o with
    | matched => exact absurd h' (by simp)
    | failed => exact absurd h (by simp)
    | stuck => exact absurd h (by simp)

noncomputable def endR (Q E : Value → Shared → Prop) : Result → Shared → Prop
  | .ok (.ret v), s' => Q v s'
  | .ok _, _ => False
  | .error e, s' => E e s'

noncomputable def tail2 (text : Array Nat) (L : Addr) : Sem PySem.Fin := do
  let joiner ← reSlice text 0 0 0
  let items ← seqItems? (Value.ref L)
  if (items.getD #[]).isEmpty = true then do
    let v ← pure joiner
    ret v
  else do
    let v ← call (Value.builtin (if (0 == 0) = true then "str.join" else "bytes.join")) [joiner, Value.ref L]
    ret v

theorem slice_ok {A : Around} {E : Value → Shared → Prop} {s : Shared} {text : Array Nat} {b e : Nat} {Q : Value → Shared → Prop} (hz : text.size ≤ 1000000) (h : Q (.str ⟨text.extract b e⟩ s.toks) { s with toks := s.toks + 1 }) : wpAny (model prog w) A (reSlice text 0 b e) Q E s := by
  show wpAny (model prog w) A (mkStr ⟨text.extract b e⟩) Q E s
  refine wpAny_mkStr h ?_
  show (text.extract b e).size ≤ _
  rw [Array.size_extract, sizeLine_is]
  omega

theorem tail2_ok {A : Around} {E : Value → Shared → Prop} {s : Shared} {text : Array Nat} {L : Addr} {vs : List Value} {ps : List Str} {e : Nat} {P : PySem.Fin → Shared → Prop} (hz : text.size ≤ 100000) (ho : s.heap.get? L = some (seqObj "list" (List.toArray vs) e)) (hp : Paired AIs vs (ps.map .str))
    (hpl : ps.length ≤ 300000) (hfl : (flat ps).length ≤ 300000) (h : ∀ tk v, AIs v (.str ⟨(flat ps).toArray⟩) → P (.done (.ret v)) { s with toks := tk }) : wpAny (model prog w) A (tail2 text L) P E s := by
  unfold tail2
  refine wpAny_bind (slice_ok (by omega) ?_)
  refine wpAny_bind ?_
  unfold seqItems?
  refine wpAny_bind (wpAny_load ho ?_)
  refine wpAny_pure ?_
  have hx : (⟨text.extract 0 0⟩ : Str) = ⟨#[]⟩ := by congr 1; simp
  by_cases hv : vs = []
  · subst hv
    have hps : ps = [] := by cases hl : ps with | nil => rfl | cons _ _ => rw [hl] at hp; cases hp
    rw [if_pos (by simp)]
    refine wpAny_bind (wpAny_pure (wpAny_pure ?_))
    refine h _ _ ⟨s.toks, ?_⟩
    rw [hx, hps]; rfl
  · rw [if_neg (by simpa using hv)]
    obtain ⟨l, e1, e2⟩ := strs_are hp
    rw [hx]
    refine wpAny_bind (SC.join (texts := ps) (l := l) ⟨_, ho, rfl, _, by rw [e1]⟩ e2 ?_ fun t' k => wpAny_pure (h _ _ ⟨t', ?_⟩))
    · apply joinOk_of_weight
      · have : (ps.map (·.length)).sum = (flat ps).length := by
          clear hp e2 hpl hfl h
          induction ps with
          | nil => rfl
          | cons a r ih => simp only [flat, List.map_cons, List.sum_cons, List.flatMap_cons, List.length_append]; rw [ih]; rfl
        omega
      · decide
    · congr 1
      rw [← join_flat]

theorem loop2 {A : Around} {a L : Addr} {x : Str} {t tr : Tok} {Q E : Value → Shared → Prop} (hz : x.cps.size ≤ 100000) : ∀ (d done : Nat) (n : Int) (ps : List Str) (s : Shared) (vs : List Value) (e : Nat),
    x.cps.size - done < d → done ≤ x.cps.size → ps.length ≤ 2 * done → (flat ps).length ≤ 2 * done → s.heap.get? L = some (seqObj "list" (List.toArray vs) e) → Paired AIs vs (ps.map .str) →
    (∀ h', Bt L s.heap h' → PatIs h' a code2 0) →
    (∀ h' tk v, Bt L s.heap h' → AIs v (.str ⟨(flat ps ++ fix2 (x.cps.toList.drop done)).toArray⟩) → Q v { s with heap := h', toks := tk }) →
    codeAny (model prog w) A (.builtin "re.Pattern.sub.loop" ⟨[.ref a, .str x t, .str crlfS tr, .int 0 0, .int 0 0, .int n 0, .int done 0, .int done 0, .bool false, .ref L, .bool false], []⟩)
      (endR Q E) s
  | 0, done, n, ps, s, vs, e, hd, _, _, _, _, _, _, _ => by omega
  | d + 1, done, n, ps, s, vs, e, hd, hdn, hpl, hfl, ho, hp, hP, hQ => by
    refine codeAny_builtin entry_subloop ?_
    rw [Around.under_plainId plain_subloop]
    unfold Builtin.«re.Pattern.sub.loop»
    dsimp only
    refine wpAny_bind (target_str (hP _ (Bt.refl _ _)) ?_)
    simp only [Int.reduceBEq, if_true, Int.reduceBNe, Bool.false_and, Bool.false_eq_true, if_false]
    refine wpAny_bind ?_
    unfold reLiteralCannotBeTurned
    refine wpAny_bind (m := asStr? (.str crlfS tr)) (wpAny_pure ?_)
    simp only [Option.isNone_some, Bool.false_eq_true, if_false]
    refine wpAny_pure ?_
    refine wpAny_bind ?_
    unfold reNextFound
    dsimp only
    rw [Int.toNat_natCast]
    refine runToEnd_ok (n := 40) (by decide) search2 fun m hm => ?_
    rcases hm with ⟨q1, q2⟩ | ⟨q1, q2, q3, q4, q5⟩
    · refine ⟨fun h => ?_, fun _ => ?_, .inr q1⟩
      · exact (not_both h q1).elim
      · have hno : ∀ c ∈ x.cps.toList.drop done, isSep c = false := fun c hc => by
          have := mem_take_drop x.cps done x.cps.size (fun c => isSep c = false) (fun i h1 h2 _ => q2 i h1 h2) c
          rw [List.take_of_length_le (by simp)] at this
          exact this hc
        rw [fix2_id _ hno] at hQ
        show wpAny (model prog w) A.in1 (if done < x.cps.size then (do let v ← reSlice x.cps 0 done x.cps.size; updateSeq L (fun x => x.push v); tail2 x.cps L) else tail2 x.cps L) _ _ _
        by_cases hlt : done < x.cps.size
        · rw [if_pos hlt]
          refine wpAny_bind (slice_ok (by omega) ?_)
          refine wpAny_bind (push_at (s := { s with toks := s.toks + 1 }) ho (by have := hp.length; rw [List.length_map] at this; omega) fun h' e' hb ho' => ?_)
          have ee : (x.cps.extract done x.cps.size).toList = x.cps.toList.drop done := by
            rw [extract_drop _ _ _ (Nat.le_refl _)]
            exact List.take_of_length_le (by simp)
          refine tail2_ok (s := { s with heap := h', toks := s.toks + 1 }) (ps := ps ++ [⟨x.cps.extract done x.cps.size⟩]) hz ho' (by rw [List.map_append]; exact paired_append hp (.cons ⟨_, rfl⟩ .nil)) (by rw [List.length_append, List.length_singleton]; omega) ?_ fun tk v hv => ?_
          · rw [flat_snoc, List.length_append, ee, List.length_drop]
            have : x.cps.toList.length = x.cps.size := Array.length_toList
            omega
          · rw [flat_snoc, ee] at hv
            exact hQ h' tk v hb hv
        · rw [if_neg hlt]
          refine tail2_ok hz ho hp (by omega) (by omega) fun tk v hv => ?_
          have e0 : x.cps.toList.drop done = [] := List.drop_eq_nil_of_le (by simp; omega)
          rw [e0, List.append_nil] at hQ
          exact hQ s.heap tk v (Bt.refl _ _) hv
    · refine ⟨fun _ => ?_, fun h => ?_, .inl q1⟩
      · -- the rest, once what stands before the match is laid down
        have go : ∀ (P : PySem.Fin → Shared → Prop) (E' : Value → Shared → Prop) (_ : ∀ c' s', c'.quiet = true ∧ codeAny (model prog w) A c' (endR Q E) s' → P (.again c') s') (ps1 : List Str) (s1 : Shared) (vs1 : List Value) (e1 : Nat) (h1 : Heap) (tk1 : Nat), s1 = { s with heap := h1, toks := tk1 } → Bt L s.heap h1 → h1.get? L = some (seqObj "list" (List.toArray vs1) e1) → Paired AIs vs1 (ps1.map .str) →
            ps1.length ≤ 2 * done + 1 → flat ps1 = flat ps ++ (x.cps.toList.drop done).take (m.start - done) →
            wpAny (model prog w) A.in1 (do
              let item ← pure (Value.str crlfS tr)
              if (item != Value.none) = true then do
                updateSeq L fun x => x.push item
                again (Code.builtin "re.Pattern.sub.loop" ⟨[Value.ref a, Value.str x t, Value.str crlfS tr, rawInt 0, rawInt 0, rawInt (n + 1), rawInt ↑m.handed, rawInt ↑m.handed, Value.bool (m.handed == m.start), Value.ref L, Value.bool false], []⟩)
              else again (Code.builtin "re.Pattern.sub.loop" ⟨[Value.ref a, Value.str x t, Value.str crlfS tr, rawInt 0, rawInt 0, rawInt (n + 1), rawInt ↑m.handed, rawInt ↑m.handed, Value.bool (m.handed == m.start), Value.ref L, Value.bool false], []⟩))
              P E' s1 := by
          intro P E' hag ps1 s1 vs1 e1 h1 tk1 es hb1 ho1 hp1 hl1 hf1
          subst es
          refine wpAny_bind (wpAny_pure ?_)
          rw [if_pos (show (Value.str crlfS tr != Value.none) = true from rfl)]
          have hvl := hp1.length
          rw [List.length_map] at hvl
          refine wpAny_bind (push_at (s := { s with heap := h1, toks := tk1 }) ho1 (by omega) fun h2 e2 hb2 ho2 => ?_)
          refine wpAny_pure (hag _ _ ⟨plainId_quiet plain_subloop _, ?_⟩)
          have hhand : m.start + 1 ≤ m.handed ∧ m.handed ≤ x.cps.size := by
            rcases q5 with ⟨_, a2, _, a4⟩ | ⟨_, a2⟩ | ⟨_, _, a3⟩ <;> omega
          have hmust : (m.handed == m.start) = false := beq_false_of_ne (by omega)
          rw [hmust]
          have hdl : ((x.cps.toList.drop done).take (m.start - done)).length = m.start - done := by
            rw [List.length_take, List.length_drop, Array.length_toList]; omega
          refine loop2 hz d m.handed (n + 1) (ps1 ++ [crlfS]) { s with heap := h2, toks := tk1 } (vs1 ++ [.str crlfS tr]) e2 (by omega) hhand.2 (by rw [List.length_append, List.length_singleton]; omega) ?_ ho2 ?_ (fun h' hb => hP h' ((hb1.trans hb2).trans hb)) fun h' tk v hb hv => ?_
          · rw [flat_snoc, hf1, List.length_append, List.length_append, hdl]
            show _ + _ + 2 ≤ _
            omega
          · rw [List.map_append]; exact paired_append hp1 (.cons ⟨_, rfl⟩ .nil)
          · refine hQ h' tk v ((hb1.trans hb2).trans hb) ?_
            have key : flat (ps1 ++ [crlfS]) ++ fix2 (x.cps.toList.drop m.handed) = flat ps ++ fix2 (x.cps.toList.drop done) := by
              have e1 : fix2 (x.cps.toList.drop done) = (x.cps.toList.drop done).take (m.start - done) ++ fix2 (x.cps.toList.drop m.start) := by
                rw [← fix2_pre _ _ (mem_take_drop x.cps done m.start (fun c => isSep c = false) fun i h1 h2 _ => q4 i h1 h2), ← drop_split x.cps.toList done m.start q2]
              have e2 : fix2 (x.cps.toList.drop m.start) = [13, 10] ++ fix2 (x.cps.toList.drop m.handed) := by
                rw [getD_drop x.cps m.start q3]
                rcases q5 with ⟨a1, a2, a3, a4⟩ | ⟨a1, a2⟩ | ⟨a1, a2, a3⟩
                · rw [a1, getD_drop x.cps (m.start + 1) a2, a3, fix2_crlf, a4]; rfl
                · rw [a1, fix2_lf, a2]; rfl
                · rw [a1, fix2_cr _ (fun r' er => ?_), a3]; rfl
                  by_cases hlt : m.start + 1 < x.cps.size
                  · rw [getD_drop x.cps (m.start + 1) hlt] at er
                    exact a2 hlt (by injection er)
                  · rw [List.drop_eq_nil_of_le (by rw [Array.length_toList]; omega)] at er
                    cases er
              rw [flat_snoc, hf1, e1, e2]
              simp [crlfS]
            rw [← key]
            exact hv
        show wpAny (model prog w) A.in1 (if done < m.start then (do let v ← reSlice x.cps 0 done m.start; updateSeq L (fun x => x.push v); _) else _) _ _ _
        by_cases hlt : done < m.start
        · rw [if_pos hlt]
          refine wpAny_bind (slice_ok (by omega) ?_)
          have hvl := hp.length
          rw [List.length_map] at hvl
          refine wpAny_bind (push_at (s := { s with toks := s.toks + 1 }) ho (by omega) fun h' e' hb ho' => ?_)
          refine go _ _ (fun _ _ h => h) (ps ++ [⟨x.cps.extract done m.start⟩]) _ _ e' h' (s.toks + 1) rfl hb ho' (by rw [List.map_append]; exact paired_append hp (.cons ⟨_, rfl⟩ .nil)) (by rw [List.length_append, List.length_singleton]; omega) ?_
          rw [flat_snoc, extract_drop _ _ _ (by omega)]
        · rw [if_neg hlt]
          refine go _ _ (fun _ _ h => h) ps s vs e s.heap s.toks rfl (Bt.refl _ _) ho hp (by omega) ?_
          rw [show m.start - done = 0 by omega, List.take_zero, List.append_nil]
      · exact (not_both q1 h).elim

end
end Mine

end

section -- Sub4
open PySem PySem.W PyProof.Rows PySem.Sre PySem.Builtin.Re
set_option maxRecDepth 100000
namespace Mine

theorem plainAttrs_re : PlainAttrs "re.Pattern" :=
  ⟨⟨"object.__getattribute__", by rw [typeLookup_type, builtinLookup_eq_fast]; kernel_rfl, by decide +kernel⟩, by rw [typeLookup_type, builtinLookup_eq_fast]; kernel_rfl⟩
theorem nocall_str : typeLookup (.type "str") "__call__" = pure none := by rw [typeLookup_type, builtinLookup_eq_fast]; kernel_rfl
theorem nocall_bytes : typeLookup (.type "bytes") "__call__" = pure none := by rw [typeLookup_type, builtinLookup_eq_fast]; kernel_rfl

theorem named_sub (r x : Value) : reNamed "re.Pattern.sub" "sub" ["repl", "string", "count"] 2 [r, x] [] = pure [some r, some x, none] := rfl

section
variable {prog : Program} {w : World} {A : Around} {s : Shared}

theorem sub2_ok {a : Addr} {x : Str} {v r : Value} (hP : PatIs s.heap a code2 0) (hz : x.cps.size ≤ 100000) (hv : AIs v (.str x)) (hr : AIs r (.str crlfS)) :
    Gives prog w A (call (.builtin "re.Pattern.sub") [.ref a, r, v]) (.atom (.str ⟨(fix2 x.cps.toList).toArray⟩)) s := by
  intro Q E hQ
  obtain ⟨t, rfl⟩ := hv
  obtain ⟨tr, rfl⟩ := hr
  obtain ⟨o, fs, c, oc, xs, n, p1, p2, p3, p4, p5, p6, p7, p8, p9, p10⟩ := hP.ex
  have hT : s.TypeIs (.ref a) "re.Pattern" := ⟨o, p1, p2⟩
  refine wpAny_call (codeAny_call_builtin slot_sub.plain entry_sub (slot_sub.check _ _ _ _ _ _ _ _ hT (args_sub _ _ _) ?_))
  show wpAny (model prog w) A.in1 (reSubstitute "re.Pattern.sub" "sub" false ⟨[.ref a, .str crlfS tr, .str x t], []⟩) _ _ s
  unfold reSubstitute
  dsimp only
  rw [named_sub]
  refine wpAny_bind (wpAny_pure ?_)
  dsimp only
  refine wpAny_bind (wpAny_pure ?_)
  refine wpAny_bind (wpAny_of_eq (show specialOf (.str crlfS tr) "__call__" = pure none from nocall_str) ?_)
  simp only [Option.isSome_none, Bool.false_eq_true, if_false]
  refine wpAny_bind (m := asStr? (.str crlfS tr)) (wpAny_pure ?_)
  dsimp only
  refine wpAny_bind (wpAny_pure ?_)
  rw [if_pos (show (!crlfS.cps.contains 92) = true by simp [crlfS])]
  refine wpAny_bind (wpAny_pure ?_)
  refine wpAny_bind (wpAny_holding (target_str hP ?_))
  dsimp only
  rw [if_neg (by decide)]
  refine wpAny_bind (wpAny_newList ?_ (Nat.zero_le _))
  refine wpAny_pure ⟨plainId_quiet plain_subloop _, ?_⟩
  have oldL : ∀ b o, s.heap.get? b = some o → b ≠ s.heap.objs.size := fun b o e => Nat.ne_of_lt (Heap.lt_size e)
  have ext : ∀ h', Bt s.heap.objs.size (s.heap.push (seqObj "list" #[] 0)) h' → Ext s.heap h' := fun h' hb b o e => hb b o (oldL b o e) (Heap.get?_push_of_some _ e)
  refine codeAny_mono (loop2 (A := A) (Q := Q) (E := E) hz (x.cps.size + 1) 0 0 [] { s with heap := s.heap.push (seqObj "list" #[] 0) } [] 0 (by omega) (Nat.zero_le _) (Nat.zero_le _) (Nat.zero_le _) (Heap.get?_push_size _ rfl) .nil (fun h' hb => ?_) fun h' tk v hb hv => ?_) fun r s' hr => ?_
  · exact ⟨o, fs, c, oc, xs, n, ext h' hb _ _ p1, p2, p3, p4, p5, p6, p7, ext h' hb _ _ p8, p9, p10⟩
  · exact hQ v _ hv ⟨h', tk, rfl, ext h' hb⟩
  · unfold endR at hr
    split at hr
    · exact hr
    · exact hr.elim
    · exact hr
end
end Mine

end

section -- Bj1
open PySem PySem.W PyProof.Rows PySem.Builtin
set_option maxRecDepth 100000
namespace Mine

theorem take_eq {id : String} {b : Array UInt8} {t : Tok} : Bytes.takeBuffer? id (.bytes b t) 0 = pure (some (b, none)) := by
  unfold Bytes.takeBuffer?
  rw [KBy.special_eq KBy.look_buffer, KBy.own_buffer]
  have e : Bytes.buffer? id (.bytes b t) ((0 : Int) == Bytes.fullReadOnly) = pure (some b) := KBy.buffer_eq
  simp only [pure_bind, e]
  rfl

section
variable {prog : Program} {w : World} {A : Around} {E : Value → Shared → Prop} {s : Shared}
theorem takeQ_ok {id : String} {b : Array UInt8} {t : Tok} {Q : Option (Array UInt8 × Option Value) → Shared → Prop} (h : Q (some (b, none)) s) : wpAny (model prog w) A (Bytes.takeBufferQuiet? id (.bytes b t) 0) Q E s := by
  unfold Bytes.takeBufferQuiet?
  refine wpAny_bind (wpAny_attempt ?_)
  rw [take_eq]
  exact wpAny_pure (wpAny_pure h)

theorem letGo_ok : ∀ (taken : List (Value × Option Value)) (keep : List Value) {Q : Unit → Shared → Prop}, (∀ p ∈ taken, p.2 = none) → Q () s → wpAny (model prog w) A (Bytes.joinLetGo taken keep) Q E s
  | [], keep, Q, _, h => wpAny_pure h
  | (x, w') :: r, keep, Q, hn, h => by
    have e : w' = none := hn _ (.head _)
    subst e
    unfold Bytes.joinLetGo
    dsimp only
    exact wpAny_bind (wpAny_letGo (letGo_ok r keep (fun p hp => hn p (.tail _ hp)) h))

end
end Mine

end

section -- Bj2
open PySem PySem.W PyProof.Rows PySem.Builtin
set_option maxRecDepth 100000
namespace Mine
section
variable {prog : Program} {w : World} {A : Around} {E : Value → Shared → Prop} {s : Shared}

abbrev BjSt := Array (Array UInt8) × List (Value × Option Value)

theorem bj_fold {vs : List Value} {body : Nat → BjSt → Sem (ForInStep BjSt)} {Q : BjSt → Shared → Prop}
    (hb : ∀ i parts taken b t, i < vs.length → vs.getD i .none = .bytes b t → (∀ p ∈ taken, p.2 = none ∧ p.1.onHeap = false) →
      wpAny (model prog w) A (body i (parts, taken)) (fun r s' => r = .yield (parts.push b, taken ++ [(.bytes b t, none)]) ∧ s' = s) E s) :
    ∀ (bs : List (Array UInt8)) (k : Nat) (parts : Array (Array UInt8)) (taken : List (Value × Option Value)), k + bs.length = vs.length → (∀ j, j < bs.length → ∃ t, vs.getD (k + j) .none = .bytes (bs.getD j #[]) t) → (∀ p ∈ taken, p.2 = none ∧ p.1.onHeap = false) →
      (∀ taken', (∀ p ∈ taken', p.2 = none ∧ p.1.onHeap = false) → Q (parts ++ bs.toArray, taken') s) → wpAny (model prog w) A (forIn (List.range' k bs.length 1) (parts, taken) body) Q E s
  | [], k, parts, taken, hk, hv, ht, hQ => by
    rw [List.length_nil, List.range'_zero, List.forIn_nil]
    exact wpAny_pure (by simpa using hQ taken ht)
  | b :: r, k, parts, taken, hk, hv, ht, hQ => by
    rw [List.length_cons] at hk
    rw [List.length_cons, List.range'_succ, List.forIn_cons]
    obtain ⟨t, e⟩ := hv 0 (by simp)
    have e' : vs.getD k .none = .bytes b t := e
    refine wpAny_bind (wpAny_mono (hb k parts taken b t (by omega) e' ht) (fun q s' hq => ?_) fun _ _ x => x)
    obtain ⟨rfl, es⟩ := hq
    rw [es]
    refine bj_fold hb r (k + 1) (parts.push b) _ (by omega) (fun j hj => ?_) (fun p hp => ?_) fun taken' ht' => ?_
    · obtain ⟨t', e2⟩ := hv (j + 1) (by simp; omega)
      exact ⟨t', by rw [show k + 1 + j = k + (j + 1) by omega, e2]; rfl⟩
    · rcases List.mem_append.mp hp with hp | hp
      · exact ht p hp
      · rw [List.mem_singleton] at hp; subst hp; exact ⟨rfl, rfl⟩
    · have := hQ taken' ht'
      have ea : parts.push b ++ r.toArray = parts ++ (b :: r).toArray := by apply Array.toList_inj.mp; simp
      rw [ea]; exact this
end
end Mine

end

section -- Bj3
open PySem PySem.W PyProof.Rows PySem.Builtin
set_option maxRecDepth 100000
namespace Mine
section
variable {prog : Program} {w : World} {A : Around} {E : Value → Shared → Prop} {s : Shared}

theorem items_ok {M : Model} {L : Addr} {o : Obj} {xs : Array Value} {n : Nat} {Q : Option (Array Value) → Shared → Prop} (ho : s.heap.get? L = some o) (hd : o.data = .seq xs n) (h : Q (some xs) s) : wpAny M A (seqItems? (.ref L)) Q E s := by
  unfold seqItems?
  refine wpAny_bind (wpAny_load ho ?_)
  rw [hd]
  exact wpAny_pure h

theorem bjoin_many {L : Addr} {o : Obj} {n : Nat} {t : Tok} {vs : List Value} {bs : List (Array UInt8)} {P : PySem.Fin → Shared → Prop} (ho : s.heap.get? L = some o) (hc : o.cls = .type "list") (hd : o.data = .seq (List.toArray vs) n) (hp : Paired AIs vs (bs.map .bytes)) (h1 : 2 ≤ vs.length)
    (h : ∀ tk v, AIs v (.bytes (bs.foldl (· ++ ·) #[])) → P (.done (.ret v)) { s with toks := tk }) (hz : (bs.map (·.size)).sum ≤ 1000000) :
    wpAny (model prog w) A (Builtin.«bytes.join» ⟨[.bytes #[] t, .ref L], []⟩) P E s := by
  unfold Builtin.«bytes.join» Bytes.joinM
  dsimp only
  refine wpAny_bind (wpAny_pure ?_)
  dsimp only
  refine wpAny_bind ?_
  unfold Bytes.joinItems
  refine wpAny_bind (Looks.here (show Looks (model prog w) s.heap (typeOf (.ref L)) o.cls from (Looks.ld ho).andThen .now) ?_)
  rw [hc]
  rw [if_pos (show (Value.type "list" == Value.type "list" || Value.type "list" == Value.type "tuple") = true from rfl)]
  refine wpAny_pure ?_
  refine wpAny_bind (items_ok ho hd ?_)
  dsimp only
  rw [if_pos (show (Bytes.Kind.bytes == Bytes.Kind.bytes) = true from rfl)]
  match vs, h1, hd, hp with
  | v1 :: v2 :: r, _, hd, hp =>
    have hbl := hp.length
    rw [List.length_map] at hbl
    refine wpAny_bind ?_
    rw [Std.Legacy.Range.forIn_eq_forIn_range']
    have e0 : (List.range' 0 (Std.Legacy.Range.size [:(v1 :: v2 :: r).toArray.size]) 1) = List.range' 0 bs.length 1 := by simp [Std.Legacy.Range.size] at hbl ⊢; exact hbl
    show wpAny (model prog w) A (forIn (List.range' 0 (Std.Legacy.Range.size [:(v1 :: v2 :: r).toArray.size]) 1) _ _) _ _ _
    rw [e0]
    refine bj_fold (vs := v1 :: v2 :: r) (fun i parts taken b t hi hv ht => ?_) bs 0 #[] [] (by omega) (fun j hj => ?_) (fun _ hp => by cases hp) fun taken' ht' => ?_
    · refine wpAny_bind (items_ok ho hd ?_)
      dsimp only
      have hany : (Bytes.Kind.bytes == Bytes.Kind.bytearray || taken.any fun x => x.1.onHeap) = false := by
        have : (taken.any fun x => x.1.onHeap) = false := by
          rw [List.any_eq_false]
          intro p hp
          rw [(ht p hp).2]; simp
        rw [this]; rfl
      rw [if_neg (by rw [hany]; simp)]
      have hg : (v1 :: v2 :: r).toArray.getD i Value.none = .bytes b t := by rw [← hv]; simp
      rw [hg]
      refine wpAny_bind (wpAny_holding (takeQ_ok ?_))
      dsimp only
      refine wpAny_bind (items_ok ho hd ?_)
      dsimp only
      rw [if_neg (by simp)]
      exact wpAny_pure ⟨rfl, rfl⟩
    · have := paired_getD (dx := Value.none) (dy := AV.bytes #[]) hp j (by omega)
      rw [Nat.zero_add]
      obtain ⟨t', e⟩ : AIs ((v1 :: v2 :: r).getD j .none) (.bytes (bs.getD j #[])) := by
        have e : (bs.map AV.bytes).getD j (AV.bytes #[]) = AV.bytes (bs.getD j #[]) := by
          simp [List.getD_eq_getElem?_getD, List.getElem?_map]
        rw [← e]; exact this
      exact ⟨t', e⟩
    · dsimp only
      refine wpAny_bind (m := Bytes.payload (.bytes #[] t)) (wpAny_pure ?_)
      rw [Array.empty_append]
      have hsum : ∀ (l : List (Array UInt8)) (a : Nat), l.foldl (fun x1 x2 => x1 + x2.size) a = a + (l.map (·.size)).sum := by
        intro l
        induction l with
        | nil => intro a; simp
        | cons b l ih => intro a; rw [List.foldl_cons, ih]; simp; omega
      have htl : Bytes.tooLong (Array.foldl (fun x1 x2 => x1 + x2.size) ((#[] : Array UInt8).size * (bs.toArray.size - 1)) bs.toArray) = false := by
        rw [List.foldl_toArray, hsum]
        refine KBy.tooLong_not ?_
        simp; omega
      rw [if_neg (by rw [htl]; simp)]
      have hj : Bytes.joined #[] bs = bs.foldl (· ++ ·) #[] := by
        have key : ∀ (l : List (Array UInt8)) (k : Nat) (a : Array UInt8), (l.zipIdx k).foldl (fun out (p : Array UInt8 × Nat) => (if p.2 > 0 then out ++ (#[] : Array UInt8) else out) ++ p.1) a = l.foldl (· ++ ·) a := by
          intro l
          induction l with
          | nil => intro k a; rfl
          | cons b l ih => intro k a; rw [List.zipIdx_cons, List.foldl_cons, List.foldl_cons, ih]; simp
        exact key bs 0 #[]
      have hsz : (bs.foldl (· ++ ·) (#[] : Array UInt8)).size = (bs.map (·.size)).sum := by
        have key : ∀ (l : List (Array UInt8)) (a : Array UInt8), (l.foldl (· ++ ·) a).size = a.size + (l.map (·.size)).sum := by
          intro l
          induction l with
          | nil => intro a; simp
          | cons b l ih => intro a; rw [List.foldl_cons, ih]; simp; omega
        rw [key]; simp
      have hjl : Bytes.joined #[] bs.toArray.toList = bs.foldl (· ++ ·) #[] := hj
      rw [hjl]
      refine wpAny_bind (m := Bytes.Kind.bytes.new _) (wpAny_mkBytes ?_ (by rw [hsz, sizeLine_is]; omega))
      refine wpAny_bind (wpAny_holding (wpAny_point ?_))
      refine wpAny_bind (letGo_ok taken' _ (fun p hp => (ht' p hp).1) (wpAny_pure ?_))
      exact h _ _ ⟨_, rfl⟩
end
end Mine

end

section -- Bj4
open PySem PySem.W PyProof.Rows PySem.Builtin
set_option maxRecDepth 100000
namespace Mine
section
variable {prog : Program} {w : World} {A : Around} {E : Value → Shared → Prop} {s : Shared}

theorem bjoin_one {L : Addr} {o : Obj} {n : Nat} {t u : Tok} {b : Array UInt8} {P : PySem.Fin → Shared → Prop} (ho : s.heap.get? L = some o) (hc : o.cls = .type "list") (hd : o.data = .seq (List.toArray [.bytes b u]) n)
    (h : P (.done (.ret (.bytes b u))) s) :
    wpAny (model prog w) A (Builtin.«bytes.join» ⟨[.bytes #[] t, .ref L], []⟩) P E s := by
  unfold Builtin.«bytes.join» Bytes.joinM
  dsimp only
  refine wpAny_bind (wpAny_pure ?_)
  dsimp only
  refine wpAny_bind ?_
  unfold Bytes.joinItems
  refine wpAny_bind (Looks.here (show Looks (model prog w) s.heap (typeOf (.ref L)) o.cls from (Looks.ld ho).andThen .now) ?_)
  rw [hc]
  rw [if_pos (show (Value.type "list" == Value.type "list" || Value.type "list" == Value.type "tuple") = true from rfl)]
  refine wpAny_pure ?_
  refine wpAny_bind (items_ok ho hd ?_)
  dsimp only
  rw [if_pos (show (Bytes.Kind.bytes == Bytes.Kind.bytes) = true from rfl)]
  refine wpAny_bind (m := typeOf (.bytes b u)) (wpAny_of_eq (a := .type "bytes") rfl ?_)
  rw [if_pos (show (Value.type "bytes" == Value.type "bytes") = true from rfl)]
  refine wpAny_bind (wpAny_rule ?_)
  exact wpAny_pure h

theorem foldl_flat (bs : List (Array UInt8)) : bs.foldl (· ++ ·) #[] = (bs.flatMap (·.toList)).toArray := by
  have key : ∀ (l : List (Array UInt8)) (a : Array UInt8), l.foldl (· ++ ·) a = a ++ (l.flatMap (·.toList)).toArray := by
    intro l
    induction l with
    | nil => intro a; simp
    | cons b l ih => intro a; rw [List.foldl_cons, ih]; apply Array.toList_inj.mp; simp
  rw [key]; simp

theorem bjoin_call {L : Addr} {o : Obj} {n : Nat} {t : Tok} {vs : List Value} {bs : List (Array UInt8)} {Q : Value → Shared → Prop} (ho : s.heap.get? L = some o) (hc : o.cls = .type "list") (hd : o.data = .seq (List.toArray vs) n) (hp : Paired AIs vs (bs.map .bytes)) (h1 : 1 ≤ vs.length)
    (h : ∀ tk v, AIs v (.bytes (bs.flatMap (·.toList)).toArray) → Q v { s with toks := tk }) (hz : (bs.map (·.size)).sum ≤ 1000000) :
    wpAny (model prog w) A (call (.builtin "bytes.join") [.bytes #[] t, .ref L]) Q E s := by
  refine wpAny_call (codeAny_call_builtin slot_bjoin.plain entry_bjoin (slot_bjoin.check _ _ _ _ _ _ _ _ (show s.TypeIs (.bytes #[] t) "bytes" from rfl) (args_bjoin _ _) ?_))
  by_cases h2 : 2 ≤ vs.length
  · refine bjoin_many ho hc hd hp h2 (fun tk v hv => ?_) hz
    rw [foldl_flat] at hv
    exact h tk v hv
  · match vs, h1, h2, hp, hd with
    | [], h1, _, _, _ => exact absurd h1 (by simp)
    | _ :: _ :: _, _, h2, _, _ => exact absurd (by simp) h2
    | [v], _, _, hp, hd =>
      match bs, hp with
      | [b], .cons hv .nil =>
        obtain ⟨u, rfl⟩ := hv
        refine bjoin_one ho hc hd ?_
        exact h _ _ ⟨u, by simp⟩
end
end Mine

end

section -- Sub5
open PySem PySem.W PyProof.Rows PySem.Sre PySem.Builtin.Re
namespace Mine

/-- what the first pattern's sub makes of a text; the flag says that a line begins here -/
noncomputable def quoteN : Bool → List Nat → List Nat
  | _, [] => []
  | b, c :: r => if (b && c == 46) = true then 46 :: 46 :: quoteN false r else c :: quoteN (c == 10) r

noncomputable def flagAt (text : Array Nat) (i : Nat) : Bool := i == 0 || text.getD (i - 1) 0 == 10
theorem hit1_flag (text : Array Nat) (i : Nat) : hit1 text i = (flagAt text i && text.getD i 0 == 46) := rfl
theorem flagAt_succ (text : Array Nat) (i : Nat) : flagAt text (i + 1) = (text.getD i 0 == 10) := by
  unfold flagAt
  simp

theorem quote_skip (text : Array Nat) : ∀ (k i : Nat), i + k ≤ text.size → (∀ j, i ≤ j → j < i + k → hit1 text j = false) →
    quoteN (flagAt text i) (text.toList.drop i) = (text.toList.drop i).take k ++ quoteN (flagAt text (i + k)) (text.toList.drop (i + k))
  | 0, i, _, _ => by simp
  | k + 1, i, hs, hh => by
    have hi : i < text.size := by omega
    have h0 := hh i (Nat.le_refl _) (by omega)
    rw [hit1_flag] at h0
    rw [getD_drop text i hi]
    show (if (flagAt text i && text.getD i 0 == 46) = true then _ else _) = _
    rw [h0]
    simp only [Bool.false_eq_true, if_false, List.take_succ_cons, List.cons_append]
    rw [← flagAt_succ, quote_skip text k (i + 1) (by omega) (fun j h1 h2 => hh j (by omega) (by omega)), show i + 1 + k = i + (k + 1) by omega]

theorem quote_hit {text : Array Nat} {i : Nat} (hi : i < text.size) (h : hit1 text i = true) : quoteN (flagAt text i) (text.toList.drop i) = 46 :: 46 :: quoteN (flagAt text (i + 1)) (text.toList.drop (i + 1)) := by
  have hc : text.getD i 0 = 46 := by
    rw [hit1_flag, Bool.and_eq_true] at h
    exact beq_iff_eq.mp h.2
  rw [hit1_flag] at h
  rw [getD_drop text i hi]
  show (if (flagAt text i && text.getD i 0 == 46) = true then _ else _) = _
  rw [if_pos h, flagAt_succ, hc]
  rfl

noncomputable def flatB (l : List (Array UInt8)) : List UInt8 := l.flatMap (·.toList)
theorem flatB_snoc (l : List (Array UInt8)) (x : Array UInt8) : flatB (l ++ [x]) = flatB l ++ x.toList := by simp [flatB]
theorem flatB_len (l : List (Array UInt8)) : (l.map (·.size)).sum = (flatB l).length := by
  induction l with
  | nil => rfl
  | cons a r ih => simp only [flatB, List.map_cons, List.sum_cons, List.flatMap_cons, List.length_append]; rw [ih]; rfl
noncomputable def u8 (l : List Nat) : List UInt8 := l.map (·.toUInt8)
theorem u8_app (a b : List Nat) : u8 (a ++ b) = u8 a ++ u8 b := by simp [u8]
theorem u8_len (a : List Nat) : (u8 a).length = a.length := by simp [u8]
theorem piece_list (text : Array Nat) (a b : Nat) (hb : b ≤ text.size) : ((text.extract a b).map (·.toUInt8)).toList = u8 ((text.toList.drop a).take (b - a)) := by
  rw [Array.toList_map, extract_drop _ _ _ hb]; rfl
end Mine

end

section -- Sub6
open PySem PySem.W PyProof.Rows PySem.Sre PySem.Builtin.Re
namespace Mine
noncomputable def dotsB : Array UInt8 := #[46, 46]
noncomputable def natsOf (x : Array UInt8) : Array Nat := x.map (·.toNat)
theorem natsOf_size (x : Array UInt8) : (natsOf x).size = x.size := by simp [natsOf]
section
variable {prog : Program} {w : World}

noncomputable def tail1 (text : Array Nat) (L : Addr) : Sem PySem.Fin := do
  let joiner ← reSlice text 1 0 0
  let items ← seqItems? (Value.ref L)
  if (items.getD #[]).isEmpty = true then do
    let v ← pure joiner
    ret v
  else do
    let v ← call (Value.builtin (if (1 == 0) = true then "str.join" else "bytes.join")) [joiner, Value.ref L]
    ret v

theorem sliceB_ok {A : Around} {E : Value → Shared → Prop} {s : Shared} {text : Array Nat} {b e : Nat} {Q : Value → Shared → Prop} (hz : text.size ≤ 1000000) (h : Q (.bytes ((text.extract b e).map (·.toUInt8)) s.toks) { s with toks := s.toks + 1 }) : wpAny (model prog w) A (reSlice text 1 b e) Q E s := by
  show wpAny (model prog w) A (mkBytes ((text.extract b e).map (·.toUInt8))) Q E s
  refine wpAny_mkBytes h ?_
  rw [Array.size_map, Array.size_extract, sizeLine_is]
  omega

theorem tail1_ok {A : Around} {E : Value → Shared → Prop} {s : Shared} {text : Array Nat} {L : Addr} {vs : List Value} {ps : List (Array UInt8)} {e : Nat} {P : PySem.Fin → Shared → Prop} (hz : text.size ≤ 100000) (ho : s.heap.get? L = some (seqObj "list" (List.toArray vs) e)) (hp : Paired AIs vs (ps.map .bytes))
    (hpl : ps.length ≤ 300000) (hfl : (flatB ps).length ≤ 300000) (h : ∀ tk v, AIs v (.bytes (flatB ps).toArray) → P (.done (.ret v)) { s with toks := tk }) : wpAny (model prog w) A (tail1 text L) P E s := by
  unfold tail1
  refine wpAny_bind (sliceB_ok (by omega) ?_)
  refine wpAny_bind ?_
  unfold seqItems?
  refine wpAny_bind (wpAny_load ho ?_)
  refine wpAny_pure ?_
  have hx : (text.extract 0 0).map (·.toUInt8) = #[] := by simp
  rw [hx]
  by_cases hv : vs = []
  · subst hv
    have hps : ps = [] := by cases hl : ps with | nil => rfl | cons _ _ => rw [hl] at hp; cases hp
    rw [if_pos (by simp)]
    refine wpAny_bind (wpAny_pure (wpAny_pure ?_))
    refine h _ _ ⟨s.toks, ?_⟩
    rw [hps]; rfl
  · rw [if_neg (by simpa using hv)]
    refine wpAny_bind (bjoin_call ho rfl rfl hp (by cases vs with | nil => exact absurd rfl hv | cons _ _ => simp) (fun tk v hv' => wpAny_pure (h _ _ hv')) ?_)
    rw [flatB_len]; omega

theorem loop1 {A : Around} {a L : Addr} {x : Array UInt8} {t tr : Tok} {Q E : Value → Shared → Prop} (hz : x.size ≤ 100000) : ∀ (d done : Nat) (n : Int) (ps : List (Array UInt8)) (s : Shared) (vs : List Value) (e : Nat),
    x.size - done < d → done ≤ x.size → ps.length ≤ 2 * done → (flatB ps).length ≤ 2 * done → s.heap.get? L = some (seqObj "list" (List.toArray vs) e) → Paired AIs vs (ps.map .bytes) →
    (∀ h', Bt L s.heap h' → PatIs h' a code1 1) →
    (∀ h' tk v, Bt L s.heap h' → AIs v (.bytes (flatB ps ++ u8 (quoteN (flagAt (natsOf x) done) ((natsOf x).toList.drop done))).toArray) → Q v { s with heap := h', toks := tk }) →
    codeAny (model prog w) A (.builtin "re.Pattern.sub.loop" ⟨[.ref a, .bytes x t, .bytes dotsB tr, .int 0 0, .int 0 0, .int n 0, .int done 0, .int done 0, .bool false, .ref L, .bool false], []⟩)
      (endR Q E) s
  | 0, done, n, ps, s, vs, e, hd, _, _, _, _, _, _, _ => by omega
  | d + 1, done, n, ps, s, vs, e, hd, hdn, hpl, hfl, ho, hp, hP, hQ => by
    have hsz : (natsOf x).size = x.size := natsOf_size x
    refine codeAny_builtin entry_subloop ?_
    rw [Around.under_plainId plain_subloop]
    unfold Builtin.«re.Pattern.sub.loop»
    dsimp only
    refine wpAny_bind (target_bytes (hP _ (Bt.refl _ _)) ?_)
    simp only [Int.reduceBEq, if_true, Int.reduceBNe, Bool.false_and, Bool.false_eq_true, if_false]
    refine wpAny_bind ?_
    unfold reLiteralCannotBeTurned
    refine wpAny_bind (m := asStr? (.bytes dotsB tr)) (wpAny_of_eq (a := none) rfl ?_)
    simp only [Option.isNone_none, if_true]
    refine wpAny_bind (wpAny_of_eq KBy.isInstance_eq ?_)
    simp only [Bool.not_true, Bool.false_eq_true, if_false]
    refine wpAny_pure ?_
    refine wpAny_bind ?_
    unfold reNextFound
    dsimp only
    rw [Int.toNat_natCast]
    show wpAny (model prog w) A.in1 (reRunToEnd (forSearch code1 (natsOf x) 0 done (natsOf x).size false)) _ _ _
    refine runToEnd_ok (n := 10 * (natsOf x).size + 30) (by rw [hsz]; omega) (search1 (by omega)) fun m hm => ?_
    rcases hm with ⟨q1, q2⟩ | ⟨q1, q2, q3, q4, q5, q6⟩
    · refine ⟨fun h => ?_, fun _ => ?_, .inr q1⟩
      · exact (not_both h q1).elim
      · have hno := quote_skip (natsOf x) ((natsOf x).size - done) done (by omega) fun j h1 h2 => q2 j h1 (by omega)
        have hnil : (natsOf x).toList.drop (done + ((natsOf x).size - done)) = [] := List.drop_eq_nil_of_le (by simp; omega)
        rw [hnil] at hno
        have hno' : quoteN (flagAt (natsOf x) done) ((natsOf x).toList.drop done) = (natsOf x).toList.drop done := by
          rw [hno, List.take_of_length_le (by simp)]
          exact List.append_nil _
        rw [hno'] at hQ
        show wpAny (model prog w) A.in1 (if done < (natsOf x).size then (do let v ← reSlice (natsOf x) 1 done (natsOf x).size; updateSeq L (fun x => x.push v); tail1 (natsOf x) L) else tail1 (natsOf x) L) _ _ _
        by_cases hlt : done < (natsOf x).size
        · rw [if_pos hlt]
          refine wpAny_bind (sliceB_ok (by omega) ?_)
          refine wpAny_bind (push_at (s := { s with toks := s.toks + 1 }) ho (by have := hp.length; rw [List.length_map] at this; omega) fun h' e' hb ho' => ?_)
          have ee : (((natsOf x).extract done (natsOf x).size).map (·.toUInt8)).toList = u8 ((natsOf x).toList.drop done) := by
            rw [piece_list _ _ _ (Nat.le_refl _), List.take_of_length_le (by simp)]
          refine tail1_ok (s := { s with heap := h', toks := s.toks + 1 }) (ps := ps ++ [((natsOf x).extract done (natsOf x).size).map (·.toUInt8)]) (by omega) ho' (by rw [List.map_append]; exact paired_append hp (.cons ⟨_, rfl⟩ .nil)) (by rw [List.length_append, List.length_singleton]; omega) ?_ fun tk v hv => ?_
          · rw [flatB_snoc, List.length_append, ee, u8_len, List.length_drop]
            have : (natsOf x).toList.length = (natsOf x).size := Array.length_toList
            omega
          · rw [flatB_snoc, ee] at hv
            exact hQ h' tk v hb hv
        · rw [if_neg hlt]
          refine tail1_ok (by omega) ho hp (by omega) (by omega) fun tk v hv => ?_
          have e0 : (natsOf x).toList.drop done = [] := List.drop_eq_nil_of_le (by simp; omega)
          rw [e0] at hQ
          have := hQ s.heap tk v (Bt.refl _ _)
          rw [show u8 [] = [] from rfl, List.append_nil] at this
          exact this hv
    · refine ⟨fun _ => ?_, fun h => ?_, .inl q1⟩
      · have go : ∀ (P : PySem.Fin → Shared → Prop) (E' : Value → Shared → Prop) (_ : ∀ c' s', c'.quiet = true ∧ codeAny (model prog w) A c' (endR Q E) s' → P (.again c') s') (ps1 : List (Array UInt8)) (s1 : Shared) (vs1 : List Value) (e1 : Nat) (h1 : Heap) (tk1 : Nat), s1 = { s with heap := h1, toks := tk1 } → Bt L s.heap h1 → h1.get? L = some (seqObj "list" (List.toArray vs1) e1) → Paired AIs vs1 (ps1.map .bytes) →
            ps1.length ≤ 2 * done + 1 → flatB ps1 = flatB ps ++ u8 (((natsOf x).toList.drop done).take (m.start - done)) → (ps1.length ≤ 2 * done ∨ done < m.start) →
            wpAny (model prog w) A.in1 (do
              let item ← pure (Value.bytes dotsB tr)
              if (item != Value.none) = true then do
                updateSeq L fun x => x.push item
                again (Code.builtin "re.Pattern.sub.loop" ⟨[Value.ref a, Value.bytes x t, Value.bytes dotsB tr, rawInt 0, rawInt 0, rawInt (n + 1), rawInt ↑m.handed, rawInt ↑m.handed, Value.bool (m.handed == m.start), Value.ref L, Value.bool false], []⟩)
              else again (Code.builtin "re.Pattern.sub.loop" ⟨[Value.ref a, Value.bytes x t, Value.bytes dotsB tr, rawInt 0, rawInt 0, rawInt (n + 1), rawInt ↑m.handed, rawInt ↑m.handed, Value.bool (m.handed == m.start), Value.ref L, Value.bool false], []⟩))
              P E' s1 := by
          intro P E' hag ps1 s1 vs1 e1 h1 tk1 es hb1 ho1 hp1 hl1 hf1 hl2
          subst es
          refine wpAny_bind (wpAny_pure ?_)
          rw [if_pos (show (Value.bytes dotsB tr != Value.none) = true from rfl)]
          have hvl := hp1.length
          rw [List.length_map] at hvl
          refine wpAny_bind (push_at (s := { s with heap := h1, toks := tk1 }) ho1 (by omega) fun h2 e2 hb2 ho2 => ?_)
          refine wpAny_pure (hag _ _ ⟨plainId_quiet plain_subloop _, ?_⟩)
          have hmust : (m.handed == m.start) = false := beq_false_of_ne (by omega)
          rw [hmust]
          have hdl : (u8 (((natsOf x).toList.drop done).take (m.start - done))).length = m.start - done := by
            rw [u8_len, List.length_take, List.length_drop, Array.length_toList]; omega
          refine loop1 hz d m.handed (n + 1) (ps1 ++ [dotsB]) { s with heap := h2, toks := tk1 } (vs1 ++ [.bytes dotsB tr]) e2 (by omega) (by omega) (by rw [List.length_append, List.length_singleton]; omega) ?_ ho2 ?_ (fun h' hb => hP h' ((hb1.trans hb2).trans hb)) fun h' tk v hb hv => ?_
          · rw [flatB_snoc, hf1, List.length_append, List.length_append, hdl]
            show _ + _ + 2 ≤ _
            omega
          · rw [List.map_append]; exact paired_append hp1 (.cons ⟨_, rfl⟩ .nil)
          · refine hQ h' tk v ((hb1.trans hb2).trans hb) ?_
            have key : flatB (ps1 ++ [dotsB]) ++ u8 (quoteN (flagAt (natsOf x) m.handed) ((natsOf x).toList.drop m.handed)) = flatB ps ++ u8 (quoteN (flagAt (natsOf x) done) ((natsOf x).toList.drop done)) := by
              have e1 := quote_skip (natsOf x) (m.start - done) done (by omega) fun j h1 h2 => q5 j h1 (by omega)
              rw [show done + (m.start - done) = m.start by omega] at e1
              rw [flatB_snoc, hf1, e1, quote_hit q3 q4, q6, u8_app]
              simp [dotsB, u8]
            rw [← key]
            exact hv
        show wpAny (model prog w) A.in1 (if done < m.start then (do let v ← reSlice (natsOf x) 1 done m.start; updateSeq L (fun x => x.push v); _) else _) _ _ _
        by_cases hlt : done < m.start
        · rw [if_pos hlt]
          refine wpAny_bind (sliceB_ok (by omega) ?_)
          have hvl := hp.length
          rw [List.length_map] at hvl
          refine wpAny_bind (push_at (s := { s with toks := s.toks + 1 }) ho (by omega) fun h' e' hb ho' => ?_)
          refine go _ _ (fun _ _ h => h) (ps ++ [((natsOf x).extract done m.start).map (·.toUInt8)]) _ _ e' h' (s.toks + 1) rfl hb ho' (by rw [List.map_append]; exact paired_append hp (.cons ⟨_, rfl⟩ .nil)) (by rw [List.length_append, List.length_singleton]; omega) ?_ (.inr hlt)
          rw [flatB_snoc, piece_list _ _ _ (by omega)]
        · rw [if_neg hlt]
          refine go _ _ (fun _ _ h => h) ps s vs e s.heap s.toks rfl (Bt.refl _ _) ho hp (by omega) ?_ (.inl hpl)
          rw [show m.start - done = 0 by omega, List.take_zero]
          exact (List.append_nil _).symm
      · exact (not_both q1 h).elim

theorem sub1_ok {A : Around} {s : Shared} {a : Addr} {x : Array UInt8} {v r : Value} (hP : PatIs s.heap a code1 1) (hz : x.size ≤ 100000) (hv : AIs v (.bytes x)) (hr : AIs r (.bytes dotsB)) :
    Gives prog w A (call (.builtin "re.Pattern.sub") [.ref a, r, v]) (.atom (.bytes (u8 (quoteN true (natsOf x).toList)).toArray)) s := by
  intro Q E hQ
  obtain ⟨t, rfl⟩ := hv
  obtain ⟨tr, rfl⟩ := hr
  obtain ⟨o, fs, c, oc, xs, n, p1, p2, p3, p4, p5, p6, p7, p8, p9, p10⟩ := hP.ex
  have hT : s.TypeIs (.ref a) "re.Pattern" := ⟨o, p1, p2⟩
  refine wpAny_call (codeAny_call_builtin slot_sub.plain entry_sub (slot_sub.check _ _ _ _ _ _ _ _ hT (args_sub _ _ _) ?_))
  show wpAny (model prog w) A.in1 (reSubstitute "re.Pattern.sub" "sub" false ⟨[.ref a, .bytes dotsB tr, .bytes x t], []⟩) _ _ s
  unfold reSubstitute
  dsimp only
  rw [named_sub]
  refine wpAny_bind (wpAny_pure ?_)
  dsimp only
  refine wpAny_bind (wpAny_pure ?_)
  refine wpAny_bind (wpAny_of_eq (show specialOf (.bytes dotsB tr) "__call__" = pure none from nocall_bytes) ?_)
  simp only [Option.isSome_none, Bool.false_eq_true, if_false]
  refine wpAny_bind (m := asStr? (.bytes dotsB tr)) (wpAny_of_eq (a := none) rfl ?_)
  dsimp only
  refine wpAny_bind (wpAny_of_eq KBy.quiet_eq ?_)
  dsimp only
  refine wpAny_bind (wpAny_pure ?_)
  rw [if_pos (show (!dotsB.contains 92) = true by decide +kernel)]
  refine wpAny_bind (wpAny_pure ?_)
  refine wpAny_bind (wpAny_holding (target_bytes hP ?_))
  dsimp only
  rw [if_neg (by decide)]
  refine wpAny_bind (wpAny_newList ?_ (Nat.zero_le _))
  refine wpAny_pure ⟨plainId_quiet plain_subloop _, ?_⟩
  have oldL : ∀ b o, s.heap.get? b = some o → b ≠ s.heap.objs.size := fun b o e => Nat.ne_of_lt (Heap.lt_size e)
  have ext : ∀ h', Bt s.heap.objs.size (s.heap.push (seqObj "list" #[] 0)) h' → Ext s.heap h' := fun h' hb b o e => hb b o (oldL b o e) (Heap.get?_push_of_some _ e)
  refine codeAny_mono (loop1 (A := A) (Q := Q) (E := E) hz (x.size + 1) 0 0 [] { s with heap := s.heap.push (seqObj "list" #[] 0) } [] 0 (by omega) (Nat.zero_le _) (Nat.zero_le _) (Nat.zero_le _) (Heap.get?_push_size _ rfl) .nil (fun h' hb => ?_) fun h' tk v hb hv => ?_) fun r s' hr => ?_
  · exact ⟨o, fs, c, oc, xs, n, ext h' hb _ _ p1, p2, p3, p4, p5, p6, p7, ext h' hb _ _ p8, p9, p10⟩
  · exact hQ v _ hv ⟨h', tk, rfl, ext h' hb⟩
  · unfold endR at hr
    split at hr
    · exact hr
    · exact hr.elim
    · exact hr
end
end Mine

end

section -- Lang0
open PySem PySem.W PyProof.Rows
namespace Mine

noncomputable def pickFn (n : Str) : List Stmt → FnRec
  | .FunctionDef name params body _ _ _ sc _ _ _ :: r => if name == n then ⟨name, params, body, sc, params.args.map (·.arg)⟩ else pickFn n r
  | _ :: r => pickFn n r
  | [] => ⟨n, default, [], default, []⟩
noncomputable def fnOf (n : Str) : FnRec := pickFn n PySem.Challenge.pw_re0093_01.main.body

noncomputable def fStrx : FnRec := fnOf "_strxfrm"
noncomputable def fStrip : FnRec := fnOf "_strip_padding"
noncomputable def fApp : FnRec := fnOf "_append_modifier"
noncomputable def fQuote : FnRec := fnOf "_quote_periods"
noncomputable def fFix : FnRec := fnOf "_fix_eols"
noncomputable def fLev : FnRec := fnOf "_levenshtein_distance"
noncomputable def fSent : FnRec := fnOf "_law_sent"
noncomputable def fWrit : FnRec := fnOf "_law_written"
noncomputable def fLaw : FnRec := fnOf "law"

noncomputable def vStrx : Value := .ref 45
noncomputable def vStrip : Value := .ref 52
noncomputable def vApp : Value := .ref 66
noncomputable def vQuote : Value := .ref 273
noncomputable def vFix : Value := .ref 280
noncomputable def vLev : Value := .ref 294
noncomputable def vSent : Value := .ref 299
noncomputable def vWrit : Value := .ref 304
noncomputable def re1A : Addr := 261
noncomputable def re2A : Addr := 266

/-- the built-ins -/
noncomputable def one : List PV → Option PV
  | [p] => some p
  | _ => none
noncomputable def two : List PV → Option (PV × PV)
  | [p, q] => some (p, q)
  | _ => none
noncomputable def app0 (v : Value) (ps : List PV) (ks : List (Str × PV)) : Option PV := match one ps with
  | some p => match v with
    | .builtin id => match ks with
      | [] => if id = "len" then lenP p else if id = "sum" then sumP p else if id = "ord" then ordP p else if id = "chr" then chrP p else if id = "sorted" then sortedP p else none
      | k :: r => if r.isEmpty = true ∧ id = "sorted" ∧ k = (Str.ofString "key", .fn vStrx) then sortedKP p else none
    | .type T => if ks.isEmpty = true ∧ T = "range" then rangeP p else if ks.isEmpty = true ∧ T = "bytes" then bytesP p else none
    | _ => none
  | none => none

noncomputable def subB (v : Value) : PV → PV → Option PV
  | .atom (.bytes r), .atom (.bytes x) => if v = .ref re1A ∧ r = dotsB ∧ x.size ≤ 100000 then some (.atom (.bytes (u8 (quoteN true (natsOf x).toList)).toArray)) else none
  | _, _ => none
noncomputable def subS (v : Value) : PV → PV → Option PV
  | .atom (.str r), .atom (.str x) => if v = .ref re2A ∧ r = crlfS ∧ x.cps.size ≤ 100000 then some (.atom (.str ⟨(fix2 x.cps.toList).toArray⟩)) else none
  | _, _ => none
noncomputable def meth0 (m : Str) (p : PV) (ps : List PV) : Option PV := match p with
  | .fn v => if m = Str.ofString "sub" then match two ps with
      | some q => (subB v q.1 q.2).or (subS v q.1 q.2)
      | none => none
    else none
  | p => methS m p ps

noncomputable def bltNames : List (Str × Value) := [(Str.ofString "len", .builtin "len"), (Str.ofString "range", .type "range"), (Str.ofString "sum", .builtin "sum"), (Str.ofString "ord", .builtin "ord"), (Str.ofString "chr", .builtin "chr"), (Str.ofString "sorted", .builtin "sorted"), (Str.ofString "bytes", .type "bytes")]
noncomputable def fnNames : List (Str × Value) := [(Str.ofString "_strxfrm", vStrx), (Str.ofString "_strip_padding", vStrip), (Str.ofString "_append_modifier", vApp), (Str.ofString "_quote_periods", vQuote), (Str.ofString "_fix_eols", vFix), (Str.ofString "_levenshtein_distance", vLev), (Str.ofString "_law_sent", vSent), (Str.ofString "_law_written", vWrit), (Str.ofString "_twin_re_1", .ref re1A), (Str.ofString "_twin_re_2", .ref re2A)]
noncomputable def conNames : List (Str × PV) := [(Str.ofString "CRLF", .atom (.str crlfS)), (Str.ofString "_MOVE_COST", .atom (.int 2))]
noncomputable def γtab : List (Str × PV) := (fnNames ++ bltNames).map (fun y => (y.1, PV.fn y.2)) ++ conNames
noncomputable def γ0 : Vars := fun x => γtab.lookup x

noncomputable def g0 : Lang := ⟨app0, meth0, γ0⟩
end Mine

end

section -- Run3
open PySem PySem.W PyProof.Rows
namespace Mine

section
variable {prog : Program} {w : World} {k : Nat} {s₀ : Shared} {g : Lang} {h₁ : Heap} {d : FD}

theorem Runs.appendS (H : Host prog w g h₁ k d s₀) {st st2 : Stmt} {rest : List Stmt} {x : Str} {px : Pos} {c e elt : Expr} {gens : List Comprehension} {cs : Scope} {pos sp npos ap cp ep : Pos} {l : List AV} {a : AV} {E₀ : List (Str × PV)} {P : Post}
    (hst : st = .Assign [.Name x px] c sp) (hst2 : st2 = .Expr (.Call (.Attribute (.Name x npos) (Str.ofString "append") ap) [e] [] cp) ep) (hcc : c = .ListComp elt gens cs pos) (hdb : (x == Str.ofString "__debug__") = false) (hline : (ap.endLine == cp.line) = true) (hns : noStar e = true) (hsw : swapB c x px d = true)
    (hc : evS g d.sc (ofL E₀) c = some (.list l)) (he : evS g d.sc (ofL ((x, .list l) :: E₀)) e = some (.atom a)) (hz : l.length ≤ 1000000)
    (h : Runs prog w k d s₀ (ofL ((x, .list (l ++ [a])) :: E₀)) rest P) : Runs prog w k d s₀ (ofL E₀) (st :: st2 :: rest) P := by
  rw [← upd_ofL] at h he
  subst hst hst2 hcc
  intro A h0 tk Q E ok F hQ
  refine wpAny_execs_cons ?_
  have hs1 := swaps_eq (d := d) (x := x) (px := px) (l := sp.line) H.kind hc
  rw [hsw] at hs1
  have hloc : d.sc.names.lookup x = some .local := by
    unfold swapB at hsw
    simp only [Bool.and_eq_true] at hsw
    exact beq_iff_eq.mp hsw.1.1
  refine assign_comp_ok H ok F rfl hloc hs1 hc fun D h2 tk2 F2 K2 hD hpl hfr hm key => ?_
  refine wpAny_execs_cons ?_
  refine wpAny_Expr ?_ (by
    show (d.sc.kind == .module && _) = false
    rw [H.kind]; rfl) rfl
  refine wpAny_Call_append rfl ?_ hline (by rw [star_one hns]; rfl) ?_
  · rw [star_one hns]; rfl
  · obtain ⟨m, hn, hmx⟩ := hm
    obtain ⟨ys, hpl⟩ := hpl
    refine wpAny_Name (wpAny_loadName_local H.kind hloc hn hmx ?_) hdb
    refine ⟨D, ys, rfl, ?_, ?_⟩
    · obtain ⟨n, hp⟩ := hpl
      exact ⟨_, n, hp, rfl, rfl, rfl⟩
    refine evS_ok H ok F2 he fun v h3 tk3 hv hx3 => ?_
    obtain ⟨T, vs, hT, ⟨o, ho, hcl, n2, hda⟩, hp⟩ := hD
    cases hT
    obtain ⟨n, hpo⟩ := hpl
    have hys : ys = List.toArray vs := by
      rw [hpo] at ho
      cases ho
      cases hda
      rfl
    subst hys
    have hL3 : PlainL h3 D (List.toArray vs) := ⟨_, n, hx3 _ _ hpo, rfl, rfl, rfl⟩
    refine list_append_plainL hL3 (fun h4 hl4 hs4 => ?_) (by rw [List.size_toArray, hp.length, sizeLine_is]; omega)
    have F4 : FrameOk d s₀.heap h4 (upd (ofL E₀) x (.list (l ++ [a]))) := key h4 _ rfl ⟨D, vs ++ [v], rfl, by simpa using hl4.isList, paired_append hp (.cons hv .nil)⟩ fun b o hb eb => hs4.extBut b o hb (hx3 b o eb)
    have K4 : Keep d h0 h4 := fun b o hz eb => hs4.extBut b o (fun hbD => by rw [hbD, hfr] at eb; cases eb) (hx3 b o (K2 b o hz eb))
    exact h A h4 tk3 Q E ok F4 fun f h5 tk5 fp ρ5 hf F5 K5 hp5 => hQ f h5 tk5 fp ρ5 hf F5 (K4.trans K5) hp5
end
end Mine

end

section -- Lang1
open PySem PySem.W PyProof.Rows
set_option maxRecDepth 100000
namespace Mine

noncomputable def gE : Lang := ⟨fun _ _ _ => none, fun _ _ _ => none, γ0⟩

noncomputable def app1 (v : Value) (ps : List PV) (ks : List (Str × PV)) : Option PV :=
  if ks.isEmpty = true ∧ v = vStrip then callP g0 fStrip ps
  else if ks.isEmpty = true ∧ v = vApp then callP g0 fApp ps
  else if ks.isEmpty = true ∧ v = vQuote then callP g0 fQuote ps
  else if ks.isEmpty = true ∧ v = vFix then callP g0 fFix ps
  else if ks.isEmpty = true ∧ v = vLev then callP g0 fLev ps
  else app0 v ps ks
noncomputable def g1 : Lang := ⟨app1, meth0, γ0⟩

structure HeapOk (h : Heap) : Prop where
  lim : h.NoLimit
  strx : FnAt h 45 fStrx
  strip : FnAt h 52 fStrip
  appm : FnAt h 66 fApp
  quote : FnAt h 273 fQuote
  fix : FnAt h 280 fFix
  lev : FnAt h 294 fLev
  sent : FnAt h 299 fSent
  writ : FnAt h 304 fWrit
  r1 : PatIs h re1A code1 1
  r2 : PatIs h re2A code2 0
  gl : Gl h γ0

theorem good_strx : fStrx.good = true := by kernel_rfl
theorem good_strip : fStrip.good = true := by kernel_rfl
theorem good_app : fApp.good = true := by kernel_rfl
theorem good_quote : fQuote.good = true := by kernel_rfl
theorem good_fix : fFix.good = true := by kernel_rfl
theorem good_lev : fLev.good = true := by kernel_rfl
theorem good_sent : fSent.good = true := by kernel_rfl
theorem good_writ : fWrit.good = true := by kernel_rfl
theorem good_law : fLaw.good = true := by kernel_rfl

section
variable {prog : Program} {w : World} {k : Nat} {g : Lang} {h₁ : Heap}

theorem AppOk.mono {n : Nat} (h : AppOk prog w g h₁ k) (hk : k ≤ n) : AppOk prog w g h₁ n := fun v ps ks r e => by
  obtain ⟨a, b, c⟩ := h v ps ks r e
  exact ⟨a, b, fun A s vs kvs ok => c A s vs kvs (ok.le hk)⟩
theorem MethOk.mono {n : Nat} (h : MethOk prog w g h₁ k) (hk : k ≤ n) : MethOk prog w g h₁ n := fun m p ps r e => by
  obtain ⟨T, id, a, b, c, dd⟩ := h m p ps r e
  exact ⟨T, id, a, b, c, fun s ov x y => ⟨(dd s ov x y).1, (dd s ov x y).2.1, fun A vs ok => (dd s ov x y).2.2 A vs (ok.le hk)⟩⟩

theorem Ok.in2 {n : Nat} {A : Around} (o : Ok (n + 1) A) : Ok n A.in1.in1 := ⟨o.hh, by have := o.hd; show A.depth + n < _; omega, by have := o.hu; show A.units + 1 + 1 + _ + _ < _; omega⟩

theorem kis_nil {h : Heap} {kvs : List (Str × Value)} (p : Paired (KIs h) kvs []) : kvs = [] := by cases p; rfl

theorem strx_ok (H : HeapOk h₁) {A : Around} {s : Shared} {v : Value} {x : Str} (ok : Ok 1 A) (hx : Ext h₁ s.heap) (hv : AIs v (.str x)) : Gives prog w A (call (.ref 45) [v]) (.atom (.str x)) s :=
  callP_ok (g := gE) (k := 0) (fun _ _ _ _ e => by cases e) (fun _ _ _ _ e => by cases e) H.strx good_strx H.lim H.gl (ps := [.atom (.str x)]) (by kernel_rfl) A s [v] ok hx (.cons hv .nil)

theorem one_some {ps : List PV} {p : PV} (h : one ps = some p) : ps = [p] := by
  cases ps with
  | nil => first | exact no_some h | cases h
  | cons a r => cases r with
    | nil => cases h; rfl
    | cons _ _ => first | exact no_some h | cases h
theorem two_some {ps : List PV} {q : PV × PV} (h : two ps = some q) : ps = [q.1, q.2] := by
  cases ps with
  | nil => first | exact no_some h | cases h
  | cons a r => cases r with
    | nil => first | exact no_some h | cases h
    | cons b r => cases r with
      | nil => cases h; rfl
      | cons _ _ => first | exact no_some h | cases h

theorem app0_ok (H : HeapOk h₁) : AppOk prog w g0 h₁ 2 := by
  intro v ps ks r e
  replace e : app0 v ps ks = some r := e
  unfold app0 at e
  split at e
  · rename_i p hp
    have := one_some hp
    subst this
    cases v with
    | builtin id =>
      refine ⟨.inl ⟨id, rfl⟩, fun T hT => (by cases hT), fun A s vs kvs ok hx hvs hks => ?_⟩
      obtain ⟨u, rfl, hu⟩ := paired_one hvs
      cases ks with
      | nil =>
        have := kis_nil hks; subst this
        replace e : (if id = "len" then lenP p else if id = "sum" then sumP p else if id = "ord" then ordP p else if id = "chr" then chrP p else if id = "sorted" then sortedP p else none) = some r := e
        split at e
        · rename_i hid; subst hid; exact len_ok e hu
        split at e
        · rename_i hid; subst hid; exact sum_ok ok e hu
        split at e
        · rename_i hid; subst hid; exact ord_ok e hu
        split at e
        · rename_i hid; subst hid; exact chr_ok e hu
        split at e
        · rename_i hid; subst hid; exact sorted_ok e hu
        · first | exact no_some e | cases e
      | cons k rr =>
        replace e : (if rr.isEmpty = true ∧ id = "sorted" ∧ k = (Str.ofString "key", .fn vStrx) then sortedKP p else none) = some r := e
        split at e
        · rename_i hc
          obtain ⟨h0, rfl, rfl⟩ := hc
          have := List.isEmpty_iff.mp h0
          subst this
          cases hks with
          | cons hk ht =>
            cases ht
            rename_i y
            obtain ⟨y1, y2⟩ := y
            obtain ⟨rfl, hq⟩ := hk
            have hq : y2 = vStrx := hq
            subst hq
            exact sortedK_ok (fun s' v x hx' hv => strx_ok H (ok.in2) (hx.trans hx') hv) e hu
        · first | exact no_some e | cases e
    | type T =>
      replace e : (if ks.isEmpty = true ∧ T = "range" then rangeP p else if ks.isEmpty = true ∧ T = "bytes" then bytesP p else none) = some r := e
      have hk : ks = [] := by
        split at e
        · rename_i hc; exact List.isEmpty_iff.mp hc.1
        split at e
        · rename_i hc; exact List.isEmpty_iff.mp hc.1
        · first | exact no_some e | cases e
      subst hk
      refine ⟨.inr (.inl ⟨T, rfl⟩), fun _ _ => rfl, fun A s vs kvs ok hx hvs hks => ?_⟩
      have := kis_nil hks; subst this
      obtain ⟨u, rfl, hu⟩ := paired_one hvs
      split at e
      · rename_i hid; obtain ⟨_, rfl⟩ := hid; exact range_ok e hu
      split at e
      · rename_i hid; obtain ⟨_, rfl⟩ := hid; exact bytes_ok ok e hu
      · first | exact no_some e | cases e
    | _ => first | exact no_some e | cases e
  · first | exact no_some e | cases e

theorem paired_two {h : Heap} {vs : List Value} {p q : PV} (hp : Paired (Is h) vs [p, q]) : ∃ u v, vs = [u, v] ∧ Is h u p ∧ Is h v q := by
  cases hp with
  | cons x t => cases t with
    | cons y t => cases t; exact ⟨_, _, rfl, x, y⟩

theorem PatIs.keep {h h' : Heap} {a : Addr} {code : Array Nat} {kind : Nat} (P : PatIs h a code kind) (k : Ext h h') : PatIs h' a code kind := by
  obtain ⟨o, fs, c, oc, xs, n, p1, p2, p3, p4, p5, p6, p7, p8, p9, p10⟩ := P.ex
  exact ⟨o, fs, c, oc, xs, n, k _ _ p1, p2, p3, p4, p5, p6, p7, k _ _ p8, p9, p10⟩

theorem meth0_ok (H : HeapOk h₁) {app γ} : MethOk prog w ⟨app, meth0, γ⟩ h₁ 0 := by
  intro m p ps r e
  replace e : meth0 m p ps = some r := e
  have pat : ∀ {a : Addr} {code : Array Nat} {kind : Nat}, PatIs h₁ a code kind → ∀ (s : Shared), Ext h₁ s.heap → s.TypeIs (.ref a) "re.Pattern" ∧ (∀ b, Value.ref a = .ref b → ∃ ob, s.heap.get? b = some ob ∧ ob.dict = none) := fun P s hx => by
    obtain ⟨o, fs, c, oc, xs, n, p1, p2, p3, p4, p5, p6, p7, p8, p9, p10⟩ := P.ex
    exact ⟨⟨o, hx _ _ p1, p2⟩, fun b hb => by cases hb; exact ⟨o, hx _ _ p1, p3⟩⟩
  cases p with
  | fn v =>
    replace e : (if m = Str.ofString "sub" then (match two ps with | some q => (subB v q.1 q.2).or (subS v q.1 q.2) | none => none) else none) = some r := e
    split at e
    · rename_i hm
      subst hm
      split at e
      · rename_i q hq
        have := two_some hq
        subst this
        generalize q.1 = a at e
        generalize q.2 = b at e
        cases hB : subB v a b with
        | some r' =>
          rw [hB] at e
          cases e
          unfold subB at hB
          split at hB
          · split at hB
            · rename_i hc
              obtain ⟨rfl, rfl, hz⟩ := hc
              cases hB
              refine ⟨"re.Pattern", _, plainAttrs_re, slot_sub, type_sub, fun s ov hx hov => ?_⟩
              have hov : ov = .ref re1A := hov
              subst hov
              refine ⟨(pat H.r1 s hx).1, (pat H.r1 s hx).2, fun A vs ok hvs => ?_⟩
              obtain ⟨u, v, rfl, hu, hv⟩ := paired_two hvs
              exact sub1_ok (H.r1.keep hx) hz hv hu
            · first | exact no_some hB | cases hB
          · first | exact no_some hB | cases hB
        | none =>
          rw [hB] at e
          replace e : subS v a b = some r := e
          unfold subS at e
          split at e
          · split at e
            · rename_i hc
              obtain ⟨rfl, rfl, hz⟩ := hc
              cases e
              refine ⟨"re.Pattern", _, plainAttrs_re, slot_sub, type_sub, fun s ov hx hov => ?_⟩
              have hov : ov = .ref re2A := hov
              subst hov
              refine ⟨(pat H.r2 s hx).1, (pat H.r2 s hx).2, fun A vs ok hvs => ?_⟩
              obtain ⟨u, v, rfl, hu, hv⟩ := paired_two hvs
              exact sub2_ok (H.r2.keep hx) hz hv hu
            · first | exact no_some e | cases e
          · first | exact no_some e | cases e
      · first | exact no_some e | cases e
    · first | exact no_some e | cases e
  | atom a =>
    replace e : methS m (.atom a) ps = some r := e
    obtain ⟨T, id, a, b, c, dd⟩ := methS_ok (prog := prog) (w := w) e
    exact ⟨T, id, a, b, c, fun s ov _ hov => ⟨(dd s ov hov).1, (dd s ov hov).2.1, fun A vs _ hvs => (dd s ov hov).2.2 A vs hvs⟩⟩
  | _ => first | exact no_some e | cases e

theorem app_fn (hA : AppOk prog w g h₁ k) (hM : MethOk prog w g h₁ k) (hlim : h₁.NoLimit) (G : Gl h₁ g.γ) {a : Addr} {f : FnRec} (hf : FnAt h₁ a f) (hg : f.good = true) {ps : List PV} {ks : List (Str × PV)} {r : PV} (hks : ks.isEmpty = true) (e : callP g f ps = some r) :
    Fn h₁ (.ref a) ∧ (∀ T, Value.ref a = .type T → ks = []) ∧ ∀ A s vs kvs, Ok (k + 1) A → Ext h₁ s.heap → Paired (Is s.heap) vs ps → Paired (KIs s.heap) kvs ks → Gives prog w A (call (.ref a) vs kvs) r s := by
  have := List.isEmpty_iff.mp hks
  subst this
  refine ⟨.inr (.inr ?_), fun _ _ => rfl, fun A s vs kvs ok hx hvs hk => ?_⟩
  · obtain ⟨o, pm, cd, doc, q1, q2, _⟩ := hf
    exact ⟨a, o, _, rfl, q1, q2⟩
  · have := kis_nil hk; subst this
    exact callP_ok hA hM hf hg hlim G e A s vs ok hx hvs

theorem app1_ok (H : HeapOk h₁) : AppOk prog w g1 h₁ 3 := by
  have hA : AppOk prog w g0 h₁ 2 := app0_ok H
  have hM : MethOk prog w g0 h₁ 2 := (meth0_ok H).mono (by omega)
  intro v ps ks r e
  replace e : app1 v ps ks = some r := e
  unfold app1 at e
  split at e
  · rename_i hc; obtain ⟨hk, rfl⟩ := hc; exact app_fn hA hM H.lim H.gl H.strip good_strip hk e
  split at e
  · rename_i hc; obtain ⟨hk, rfl⟩ := hc; exact app_fn hA hM H.lim H.gl H.appm good_app hk e
  split at e
  · rename_i hc; obtain ⟨hk, rfl⟩ := hc; exact app_fn hA hM H.lim H.gl H.quote good_quote hk e
  split at e
  · rename_i hc; obtain ⟨hk, rfl⟩ := hc; exact app_fn hA hM H.lim H.gl H.fix good_fix hk e
  split at e
  · rename_i hc; obtain ⟨hk, rfl⟩ := hc; exact app_fn hA hM H.lim H.gl H.lev good_lev hk e
  · exact (hA.mono (n := 3) (by omega)) v ps ks r e
end
end Mine

end

section -- Sym1
open PySem PySem.W PyProof.Rows
namespace Mine

noncomputable def kid : Nat → Expr → Expr
  | 0, .BinOp l _ _ _ => l
  | 1, .BinOp _ _ r _ => r
  | 0, .Compare l _ _ _ => l
  | 1, .Compare _ _ [r] _ => r
  | 0, .Subscript v _ _ => v
  | 1, .Subscript _ (.Slice none (some hi) none _) _ => hi
  | 1, .Subscript _ (.Slice (some lo) none none _) _ => lo
  | 1, .Subscript _ i _ => i
  | 0, .IfExp t _ _ _ => t
  | 1, .IfExp _ b _ _ => b
  | 2, .IfExp _ _ o _ => o
  | 9, .Call (.Attribute o _ _) _ _ _ => o
  | i, .Call _ args _ _ => args.getD i (.Name ⟨#[]⟩ ⟨0, 0, 0, 0⟩)
  | 0, .ListComp elt _ _ _ => elt
  | 1, .ListComp _ [⟨_, iter, _, _⟩] _ _ => iter
  | 2, .ListComp _ [⟨target, _, _, _⟩] _ _ => target
  | i, .BoolOp _ vs _ => vs.getD i (.Name ⟨#[]⟩ ⟨0, 0, 0, 0⟩)
  | 0, .UnaryOp _ x _ => x
  | _, e => e
noncomputable def ifsOf : Expr → List Expr
  | .ListComp _ [⟨_, _, ifs, _⟩] _ _ => ifs
  | _ => []
noncomputable def scOf : Expr → Scope
  | .ListComp _ _ cs _ => cs
  | _ => default

noncomputable def posN : Expr → Pos
  | .Call (.Name _ p) _ _ _ => p
  | .Call (.Attribute _ _ p) _ _ _ => p
  | .Subscript _ (.Slice _ _ _ p) _ => p
  | e => e.pos

section
variable {g : Lang} {n : Nat} {sc : Option Scope} {ρ : Vars} {e : Expr}

theorem evP_bin {op : Operator} {a b : PV} (h : e = .BinOp (kid 0 e) op (kid 1 e) e.pos) (ha : evP g n sc ρ (kid 0 e) = some a) (hb : evP g n sc ρ (kid 1 e) = some b) : evP g (n + 1) sc ρ e = binP op a b := by
  generalize kid 0 e = l at h ha
  generalize kid 1 e = r at h hb
  generalize e.pos = p at h
  subst h
  have : evP g (n + 1) sc ρ (.BinOp l op r p) = (match evP g n sc ρ l, evP g n sc ρ r with | some a, some b => binP op a b | _, _ => none) := rfl
  rw [this, ha, hb]

theorem evP_item {a b : PV} (h : (e, true) = (.Subscript (kid 0 e) (kid 1 e) e.pos, notSlice (kid 1 e))) (ha : evP g n sc ρ (kid 0 e) = some a) (hb : evP g n sc ρ (kid 1 e) = some b) : evP g (n + 1) sc ρ e = itemP a b := by
  generalize kid 0 e = l at h ha
  generalize kid 1 e = r at h hb
  generalize e.pos = p at h
  obtain ⟨h1, h2⟩ := Prod.mk.inj h
  subst h1
  rw [evP_sub h2.symm, ha, hb]

theorem evP_to {a : PV} {b : AV} (h : e = .Subscript (kid 0 e) (.Slice none (some (kid 1 e)) none (posN e)) e.pos) (ha : evP g n sc ρ (kid 0 e) = some a) (hb : evP g n sc ρ (kid 1 e) = some (.atom b)) : evP g (n + 1) sc ρ e = sliceP a .none b := by
  generalize kid 0 e = l at h ha
  generalize kid 1 e = r at h hb
  generalize e.pos = p at h
  generalize posN e = p2 at h
  subst h
  have : evP g (n + 1) sc ρ (.Subscript l (.Slice none (some r) none p2) p) = (match evP g n sc ρ l, some (PV.atom .none), evP g n sc ρ r with | some p, some (.atom a), some (.atom b) => sliceP p a b | _, _, _ => none) := rfl
  rw [this, ha, hb]

theorem evP_name {x : Str} {p : PV} {pos : Pos} (hd : (x == Str.ofString "__debug__") = false) (hx : ρ x = some p) : evP g (n + 1) sc ρ (.Name x pos) = some p := by
  have : evP g (n + 1) sc ρ (.Name x pos) = (if (x == Str.ofString "__debug__") = true then none else ρ x) := rfl
  rw [this, hd, hx]
  rfl

theorem evP_callU {y : Str} {py pos : Pos} {args : List Expr} {v : Value} {ps : List PV} (hf : evP g n sc ρ (.Name y py) = some (.fn v)) (ha : evL (evP g n sc ρ) args = some ps) (h1 : args.isEmpty = false) (h2 : args.length < 20) : evP g (n + 1) sc ρ (.Call (.Name y py) args [] pos) = g.app v ps [] := by
  have : evP g (n + 1) sc ρ (.Call (.Name y py) args [] pos) = (match evP g n sc ρ (.Name y py), evL (evP g n sc ρ) args, evK (evP g n sc ρ) [] with
        | some (.fn v), some ps, some ks => if args.isEmpty || decide (args.length + 2 * ([] : List Keyword).length > 30) then none else g.app v ps ks
        | _, _, _ => none) := rfl
  rw [this, hf, ha]
  have e : (args.isEmpty || decide (args.length + 2 * ([] : List Keyword).length > 30)) = false := by
    rw [h1]; simp; omega
  show (if (args.isEmpty || decide (args.length + 2 * ([] : List Keyword).length > 30)) = true then none else g.app v ps []) = _
  rw [e]
  rfl

theorem evL_cons {f : Expr → Option PV} {e : Expr} {r : List Expr} {p : PV} {ps : List PV} (hs : noStar e = true) (h1 : f e = some p) (h2 : evL f r = some ps) : evL f (e :: r) = some (p :: ps) := by
  have : evL f (e :: r) = (if noStar e then match f e, evL f r with | some p, some ps => some (p :: ps) | _, _ => none else none) := rfl
  rw [this, if_pos hs, h1, h2]

theorem evP_call1 {x : Str} {v : Value} {a : PV} (h : e = .Call (.Name x (posN e)) [kid 0 e] [] e.pos) (hs : noStar (kid 0 e) = true) (hd : (x == Str.ofString "__debug__") = false) (hx : ρ x = some (.fn v)) (ha : evP g (n + 1) sc ρ (kid 0 e) = some a) : evP g (n + 2) sc ρ e = g.app v [a] [] := by
  generalize kid 0 e = l at h ha hs
  generalize e.pos = p at h
  generalize posN e = p2 at h
  subst h
  exact evP_callU (evP_name hd hx) (evL_cons hs ha rfl) rfl (by simp)

theorem evP_meth1 {m : Str} {o a : PV} (h : (e, true) = (.Call (.Attribute (kid 9 e) m (posN e)) [kid 0 e] [] e.pos, ((posN e).endLine == e.pos.line) && notCall (kid 9 e) && noStar (kid 0 e))) (ho : evP g n sc ρ (kid 9 e) = some o) (ha : evP g n sc ρ (kid 0 e) = some a) : evP g (n + 1) sc ρ e = g.meth m o [a] := by
  generalize kid 0 e = arg at h ha
  generalize kid 9 e = o' at h ho
  generalize e.pos = pos at h
  generalize posN e = ap at h
  obtain ⟨h1, hc⟩ := Prod.mk.inj h
  subst h1
  have hc := hc.symm
  simp only [Bool.and_eq_true] at hc
  have : evP g (n + 1) sc ρ (.Call (.Attribute o' m ap) [arg] [] pos) = (if (([] : List Keyword).isEmpty && (ap.endLine == pos.line) && decide (([arg] : List Expr).length < 20) && notCall o') = true then (match evP g n sc ρ o', evL (evP g n sc ρ) [arg] with
      | some a, some ps => g.meth m a ps
      | _, _ => none) else none) := rfl
  rw [this, ho, evL_cons hc.2 ha rfl, hc.1.1, hc.1.2]
  rfl

theorem compP_eq {f : PV → Option (Option PV)} {h : PV → Option PV} : ∀ (items : List PV), (∀ it ∈ items, f it = some (h it)) → compP f items = some (items.filterMap h)
  | [], _ => rfl
  | p :: r, hf => by
    unfold compP
    rw [hf p List.mem_cons_self, compP_eq r fun it hi => hf it (List.mem_cons_of_mem _ hi), List.filterMap_cons]
    cases h p <;> rfl

theorem compP_map {f : PV → Option (Option PV)} {h : PV → PV} (items : List PV) (hf : ∀ it ∈ items, f it = some (some (h it))) : compP f items = some (items.map h) := by
  rw [compP_eq (h := fun p => some (h p)) items hf]
  simp

theorem evP_comp' {osc : Scope} {src p : PV} {items out : List PV} (h : e = .ListComp (kid 0 e) [⟨kid 2 e, kid 1 e, ifsOf e, 0⟩] (scOf e) e.pos) (hok : scopeOk osc (scOf e) = true) (hs : evP g n (some osc) ρ (kid 1 e) = some src) (hi : itemsP src = some items)
    (ho : compP (eltF (evP g n none) (tsP g n none) (scOf e) g.γ ρ (kid 2 e) (kid 0 e) (ifsOf e)) items = some out) (hp : packP (isTuple (kid 0 e)) out = some p) : evP g (n + 1) (some osc) ρ e = some p := by
  generalize kid 0 e = elt at h ho hp
  generalize kid 1 e = iter at h hs
  generalize kid 2 e = target at h ho
  generalize ifsOf e = ifs at h ho
  generalize scOf e = cs at h hok ho
  generalize e.pos = pos at h
  subst h
  have : evP g (n + 1) (some osc) ρ (.ListComp elt [⟨target, iter, ifs, 0⟩] cs pos) = (if scopeOk osc cs then match evP g n (some osc) ρ iter with
        | some src => match itemsP src with
          | some items => match compP (eltF (evP g n none) (tsP g n none) cs g.γ ρ target elt ifs) items with
            | some out => packP (isTuple elt) out
            | none => none
          | none => none
        | none => none
        else none) := rfl
  rw [this, if_pos hok, hs]
  dsimp only
  rw [hi]
  dsimp only
  rw [ho]
  exact hp

theorem tsP_cmp {op : CmpOp} {a b : PV} (h : (e, false) = (.Compare (kid 0 e) [op] [kid 1 e] e.pos, behindInMarks op (kid 1 e))) (ha : evP g n sc ρ (kid 0 e) = some a) (hb : evP g n sc ρ (kid 1 e) = some b) : tsP g (n + 1) sc ρ e = cmpP op a b := by
  generalize kid 0 e = l at h ha
  generalize kid 1 e = r at h hb
  generalize e.pos = p at h
  obtain ⟨h1, h2⟩ := Prod.mk.inj h
  subst h1
  have : tsP g (n + 1) sc ρ (.Compare l [op] [r] p) = (if behindInMarks op r = true then none else match evP g n sc ρ l, evP g n sc ρ r with | some a, some b => cmpP op a b | _, _ => none) := rfl
  rw [this, ← h2, ha, hb]
  rfl

theorem evP_cmp {op : CmpOp} {a b : PV} (h : (e, false) = (.Compare (kid 0 e) [op] [kid 1 e] e.pos, behindInMarks op (kid 1 e))) (ha : evP g n sc ρ (kid 0 e) = some a) (hb : evP g n sc ρ (kid 1 e) = some b) : evP g (n + 1) sc ρ e = (cmpP op a b).map fun c => .atom (.bool c) := by
  generalize kid 0 e = l at h ha
  generalize kid 1 e = r at h hb
  generalize e.pos = p at h
  obtain ⟨h1, h2⟩ := Prod.mk.inj h
  subst h1
  have : evP g (n + 1) sc ρ (.Compare l [op] [r] p) = (if behindInMarks op r = true then none else match evP g n sc ρ l, evP g n sc ρ r with | some a, some b => (cmpP op a b).map fun c => .atom (.bool c) | _, _ => none) := rfl
  rw [this, ← h2, ha, hb]
  rfl

theorem evP_ifx {t : Bool} (h : e = .IfExp (kid 0 e) (kid 1 e) (kid 2 e) e.pos) (ht : tsP g n sc ρ (kid 0 e) = some t) : evP g (n + 1) sc ρ e = if t then evP g n sc ρ (kid 1 e) else evP g n sc ρ (kid 2 e) := by
  generalize kid 0 e = a at h ht
  generalize kid 1 e = b at h ⊢
  generalize kid 2 e = c at h ⊢
  generalize e.pos = p at h
  subst h
  have : evP g (n + 1) sc ρ (.IfExp a b c p) = (match tsP g n sc ρ a with | some true => evP g n sc ρ b | some false => evP g n sc ρ c | none => none) := rfl
  rw [this, ht]
  cases t <;> rfl

theorem atomsP_map (l : List AV) : atomsP (l.map .atom) = some l := by
  induction l with
  | nil => rfl
  | cons a r ih => simp [atomsP, ih]
theorem tupsP_map (l : List (List AV)) : tupsP (l.map .tup) = some l := by
  induction l with
  | nil => rfl
  | cons a r ih => simp [tupsP, ih]
theorem packP_list (l : List AV) : packP false (l.map .atom) = some (.list l) := by simp [packP, atomsP_map]
theorem packP_tups (l : List (List AV)) : packP true (l.map .tup) = some (.tups l) := by simp [packP, tupsP_map]
end

noncomputable def stAt (f : FnRec) (i : Nat) : Stmt := f.body.getD i (.Pass ⟨0, 0, 0, 0⟩)
noncomputable def stIn (l : List Stmt) (i : Nat) : Stmt := l.getD i (.Pass ⟨0, 0, 0, 0⟩)
noncomputable def valE : Stmt → Expr
  | .Assign _ e _ => e
  | .Return (some e) _ => e
  | .If t _ _ _ => t
  | .For _ it _ _ _ => it
  | .Expr e _ => e
  | _ => .Name ⟨#[]⟩ ⟨0, 0, 0, 0⟩
noncomputable def bodyOf : Stmt → List Stmt
  | .For _ _ b _ _ => b
  | .If _ b _ _ => b
  | .While _ b _ _ => b
  | _ => []
noncomputable def elseOf : Stmt → List Stmt
  | .If _ _ o _ => o
  | _ => []
noncomputable def namS : Stmt → Str
  | .Assign [.Name x _] _ _ => x
  | .For (.Name x _) _ _ _ _ => x
  | _ => ⟨#[]⟩
end Mine

end

section -- Plain1
open PySem PySem.W PyProof.Rows PySem.StrLaws PySem.Builtin.Str
namespace Mine

theorem at_iff (x : Str) (k : Nat) : At x crlfS x.length k ↔ (x.cps.toList.drop k).take 2 = [13, 10] := by
  unfold At
  rw [subAt_eq]
  constructor
  · rintro ⟨h1, h2⟩
    exact eq_of_beq h2
  · intro h
    refine ⟨?_, ?_⟩
    · have := congrArg List.length h
      simp at this
      show k + 2 ≤ x.cps.size
      omega
    · show ((x.cps.toList.drop k).take 2 == [13, 10]) = true
      rw [h]; rfl

noncomputable def linesL (ps : List (List Nat)) : List Nat := ps.flatMap fun p => p ++ [13, 10]
noncomputable def mkS (l : List Nat) : Str := ⟨l.toArray⟩

theorem split_aux (x : Str) : ∀ (ps : List (List Nat)) (a f : Nat) (cuts : List Nat), x.cps.toList.drop a = linesL ps → (∀ p ∈ ps, 13 ∉ p) → a ≤ x.length → ChainG x crlfS x.length a cuts f → (∀ k, f ≤ k → ¬ At x crlfS x.length k) →
    partsFrom x 2 a cuts = ps.map mkS ++ [⟨#[]⟩]
  | [], a, f, cuts, hd, _, ha, hc, hn => by
    have hlen : x.length ≤ a := by
      have := congrArg List.length hd
      simp [linesL] at this
      show x.cps.size ≤ a
      omega
    cases cuts with
    | nil =>
      show [strSub x a x.length] = [⟨#[]⟩]
      congr 1
      apply Str.ext'
      apply Array.toList_inj.mp
      rw [strSub_toList, hd]
      simp [linesL]
    | cons c r =>
      have := hc.2.1.1
      have h2 : crlfS.length = 2 := rfl
      have := hc.1
      omega
  | p :: ps, a, f, cuts, hd, hp, ha, hc, hn => by
    have hd : x.cps.toList.drop a = p ++ ([13, 10] ++ linesL ps) := by rw [hd]; simp [linesL]
    have hpos : At x crlfS x.length (a + p.length) := by
      rw [at_iff, ← List.drop_drop, hd, List.drop_left']
      · simp
      · rfl
    have hno : ∀ k, a ≤ k → k < a + p.length → ¬ At x crlfS x.length k := by
      intro k h1 h2 h3
      rw [at_iff] at h3
      have e : k = a + (k - a) := by omega
      rw [e, ← List.drop_drop, hd, List.drop_append_of_le_length (by omega)] at h3
      have hm : 13 ∈ p := by
        cases hq : p.drop (k - a) with
        | nil =>
          have := congrArg List.length hq
          simp at this
          omega
        | cons c r =>
          rw [hq] at h3
          have : c = 13 := by
            have := congrArg List.head? h3
            simpa using this
          subst this
          exact List.mem_of_mem_drop (hq ▸ List.mem_cons_self)
      exact hp p List.mem_cons_self hm
    cases cuts with
    | nil =>
      have e : f = a := hc
      subst e
      exact absurd hpos (hn _ (by omega))
    | cons c r =>
      obtain ⟨h1, h2, h3, h4⟩ := hc
      have ec : c = a + p.length := by
        by_cases hlt : c < a + p.length
        · exact absurd h2 (hno c h1 hlt)
        · by_cases hgt : a + p.length < c
          · exact absurd hpos (h3 _ (by omega) hgt)
          · omega
      subst ec
      have h2' : crlfS.length = 2 := rfl
      rw [h2'] at h4
      show strSub x a (a + p.length) :: partsFrom x 2 (a + p.length + 2) r = _
      have hle : a + p.length + 2 ≤ x.length := by have := h2.1; rw [h2'] at this; exact this
      rw [split_aux x ps (a + p.length + 2) f r ?_ (fun q hq => hp q (List.mem_cons_of_mem _ hq)) hle h4 hn]
      · rw [List.map_cons, List.cons_append]
        congr 1
        apply Str.ext'
        apply Array.toList_inj.mp
        rw [strSub_toList, hd]
        simp [mkS]
      · rw [show a + p.length + 2 = a + (p.length + 2) by omega, ← List.drop_drop, hd, ← List.drop_drop, List.drop_left' rfl]
        rfl

theorem strKind_pos (x : Str) : ¬ Builtin.Str.strKind x < Builtin.Str.strKind crlfS := by
  have e : Builtin.Str.strKind crlfS = 1 := by decide +kernel
  rw [e]
  unfold Builtin.Str.strKind
  split
  · omega
  · split <;> omega

theorem split_lines (ps : List (List Nat)) (hp : ∀ p ∈ ps, 13 ∉ p) : PySem.Txt.split (mkS (linesL ps)) crlfS = ps.map mkS ++ [⟨#[]⟩] := by
  obtain ⟨f, h1, h2⟩ := occ_tight (mkS (linesL ps)) crlfS (by decide)
  have key := split_aux (mkS (linesL ps)) ps 0 f _ (by simp [mkS]) hp (Nat.zero_le _) h1 h2
  unfold PySem.Txt.split
  cases ps with
  | nil => rfl
  | cons p r =>
    have hl : ¬ (mkS (linesL (p :: r))).length < crlfS.length := by
      show ¬ (linesL (p :: r)).toArray.size < 2
      simp [linesL]
      omega
    have hc : (decide ((mkS (linesL (p :: r))).length < crlfS.length) || decide (Builtin.Str.strKind (mkS (linesL (p :: r))) < Builtin.Str.strKind crlfS)) = false := by
      rw [decide_eq_false hl, decide_eq_false (strKind_pos _)]; rfl
    rw [hc]
    simp only [Bool.false_eq_true, if_false]
    split
    · rename_i he
      have he := List.isEmpty_iff.mp he
      rw [he] at key
      rw [← key]
      show _ = [strSub _ 0 _]
      rw [strSub_whole]
    · rw [partsBetween_eq]
      exact key

/-! the mail's text -/
abbrev Row := Int × Str
noncomputable def ends (m : Int) : List Nat := if m.fmod 3 = 0 then [10] else if m.fmod 3 = 1 then [13] else [13, 10]
/-- a row as its code points, whether it is fired -/
noncomputable def pieceL (q : List Nat × Bool) : List Nat := (if q.2 then [32] else []) ++ q.1
noncomputable def mailL (kind : Int) : Int → List (List Nat × Bool) → List Nat
  | _, [] => []
  | i, q :: r => pieceL q ++ ends (kind + i) ++ mailL kind (i + 1) r
noncomputable def quotL (q : List Nat × Bool) : List Nat := (if q.2 then [32] else [46]) ++ q.1

structure GoodL (l : List Nat) : Prop where
  dot : ∃ r, l = 46 :: r
  plain : ∀ c ∈ l, isSep c = false ∧ c < 256
  len : l.length ≤ 20

theorem plain_piece {q : List Nat × Bool} (h : GoodL q.1) : ∀ c ∈ pieceL q, isSep c = false := by
  intro c hc
  unfold pieceL at hc
  rcases List.mem_append.mp hc with hc | hc
  · split at hc
    · rw [List.mem_singleton.mp hc]; rfl
    · cases hc
  · exact (h.plain c hc).1

theorem mail_head {kind : Int} : ∀ (i : Int) (l : List (List Nat × Bool)), (∀ q ∈ l, GoodL q.1) → ∀ r, mailL kind i l ≠ 10 :: r
  | _, [], _, r => by simp [mailL]
  | i, q :: l, h, r => by
    obtain ⟨r', hr⟩ := (h q List.mem_cons_self).dot
    unfold mailL pieceL
    rw [hr]
    cases q.2 <;> simp

theorem fix_mail {kind : Int} : ∀ (i : Int) (l : List (List Nat × Bool)), (∀ q ∈ l, GoodL q.1) → fix2 (mailL kind i l) = linesL (l.map pieceL)
  | _, [], _ => rfl
  | i, q :: l, h => by
    have ih := fix_mail (kind := kind) (i + 1) l fun q hq => h q (List.mem_cons_of_mem _ hq)
    have hh := mail_head (kind := kind) (i + 1) l fun q hq => h q (List.mem_cons_of_mem _ hq)
    unfold mailL
    rw [List.append_assoc, fix2_pre _ _ (plain_piece (h q List.mem_cons_self))]
    have : fix2 (ends (kind + i) ++ mailL kind (i + 1) l) = 13 :: 10 :: fix2 (mailL kind (i + 1) l) := by
      unfold ends
      split
      · exact fix2_lf _
      · split
        · exact fix2_cr _ hh
        · exact fix2_crlf _
    rw [this, ih]
    simp [linesL]

theorem quote_plain : ∀ (p r : List Nat), (∀ c ∈ p, c ≠ 10) → ∀ b, (∀ c r', p = c :: r' → (b && c == 46) = false) → quoteN b (p ++ r) = p ++ quoteN (b && p.isEmpty) r
  | [], r, _, b, _ => by simp
  | c :: p, r, h, b, hb => by
    rw [List.cons_append, quoteN, hb c p rfl]
    have hc : (c == 10) = false := beq_eq_false_iff_ne.mpr (h c List.mem_cons_self)
    rw [hc, quote_plain p r (fun d hd => h d (List.mem_cons_of_mem _ hd)) false (fun _ _ _ => rfl)]
    simp

theorem quote_lines : ∀ (l : List (List Nat × Bool)), (∀ q ∈ l, GoodL q.1) → quoteN true (linesL (l.map pieceL)) = linesL (l.map quotL)
  | [], _ => rfl
  | q :: l, h => by
    have ih := quote_lines l fun q hq => h q (List.mem_cons_of_mem _ hq)
    have hq := h q List.mem_cons_self
    have hn : ∀ c ∈ q.1, c ≠ 10 := fun c hc e => by
      have := (hq.plain c hc).1
      subst e
      cases this
    have tail : ∀ r, quoteN false ([13, 10] ++ r) = [13, 10] ++ quoteN true r := fun r => rfl
    show quoteN true ((pieceL q ++ [13, 10]) ++ linesL (l.map pieceL)) = (quotL q ++ [13, 10]) ++ linesL (l.map quotL)
    rw [← ih, List.append_assoc, List.append_assoc, ← tail]
    obtain ⟨r', hr⟩ := hq.dot
    unfold pieceL quotL
    cases hf : q.2 with
    | true =>
      simp only [if_true]
      rw [quote_plain ([32] ++ q.1) _ ?_ true ?_]
      · simp
      · intro c hc
        rcases List.mem_cons.mp hc with rfl | hc
        · decide
        · exact hn c hc
      · intro c r'' e
        cases e
        rfl
    | false =>
      simp only [Bool.false_eq_true, if_false, List.nil_append]
      rw [hr] at hn ⊢
      have hn' : ∀ c ∈ r', c ≠ 10 := fun c hc => hn c (List.mem_cons_of_mem _ hc)
      show quoteN true (46 :: (r' ++ _)) = _
      rw [quoteN]
      simp only [beq_self_eq_true, Bool.and_self, if_true]
      rw [quote_plain r' _ hn' false (fun _ _ _ => rfl)]
      simp

theorem quot_plain {q : List Nat × Bool} (h : GoodL q.1) : ∀ c ∈ quotL q, isSep c = false ∧ c < 256 := by
  intro c hc
  unfold quotL at hc
  rcases List.mem_append.mp hc with hc | hc
  · split at hc <;> (rw [List.mem_singleton.mp hc]; exact ⟨rfl, by decide⟩)
  · exact h.plain c hc

theorem lines_len {f : List Nat × Bool → List Nat} (hf : ∀ q, (f q).length ≤ 1 + q.1.length) : ∀ (l : List (List Nat × Bool)), (∀ q ∈ l, GoodL q.1) → (linesL (l.map f)).length ≤ 25 * l.length
  | [], _ => by simp [linesL]
  | q :: l, h => by
    have ih := lines_len hf l fun q hq => h q (List.mem_cons_of_mem _ hq)
    have h1 := (h q List.mem_cons_self).len
    have h2 := hf q
    have e : linesL ((q :: l).map f) = f q ++ ([13, 10] ++ linesL (l.map f)) := by simp [linesL]
    rw [e]
    simp only [List.length_append, List.length_cons, List.length_nil]
    omega
theorem mail_len {kind : Int} : ∀ (i : Int) (l : List (List Nat × Bool)), (∀ q ∈ l, GoodL q.1) → (mailL kind i l).length ≤ 25 * l.length
  | _, [], _ => by simp [mailL]
  | i, q :: l, h => by
    have ih := mail_len (kind := kind) (i + 1) l fun q hq => h q (List.mem_cons_of_mem _ hq)
    have h1 := (h q List.mem_cons_self).len
    have h2 : (ends (kind + i)).length ≤ 2 := by unfold ends; split <;> (try split) <;> simp
    have h3 : (pieceL q).length ≤ 1 + q.1.length := by unfold pieceL; split <;> simp <;> omega
    unfold mailL
    simp only [List.length_append, List.length_cons]
    omega
theorem mail_snoc {kind : Int} (q : List Nat × Bool) : ∀ (i : Int) (l : List (List Nat × Bool)), mailL kind i (l ++ [q]) = mailL kind i l ++ (pieceL q ++ ends (kind + (i + l.length)))
  | i, [] => by simp [mailL]
  | i, p :: l => by
    rw [List.cons_append, mailL, mail_snoc q (i + 1) l, mailL]
    have : i + 1 + (l.length : Int) = i + ((p :: l).length : Int) := by simp; omega
    rw [this]
    simp [List.append_assoc]
theorem lines_plain {f : List Nat × Bool → List Nat} (hf : ∀ q, GoodL q.1 → ∀ c ∈ f q, c < 256) : ∀ (l : List (List Nat × Bool)), (∀ q ∈ l, GoodL q.1) → ∀ c ∈ linesL (l.map f), c < 256 := by
  intro l h c hc
  unfold linesL at hc
  obtain ⟨p, hp, hc⟩ := List.mem_flatMap.mp hc
  obtain ⟨q, hq, rfl⟩ := List.mem_map.mp hp
  rcases List.mem_append.mp hc with hc | hc
  · exact hf q (h q hq) c hc
  · simp at hc
    omega
end Mine

end

section -- Sent1
open PySem PySem.W PyProof.Rows
set_option maxRecDepth 100000
namespace Mine

theorem evP_meth2 {g : Lang} {n : Nat} {sc : Option Scope} {ρ : Vars} {e : Expr} {m : Str} {o a b : PV} (h : (e, true) = (.Call (.Attribute (kid 9 e) m (posN e)) [kid 0 e, kid 1 e] [] e.pos, ((posN e).endLine == e.pos.line) && notCall (kid 9 e) && noStar (kid 0 e) && noStar (kid 1 e))) (ho : evP g n sc ρ (kid 9 e) = some o) (ha : evP g n sc ρ (kid 0 e) = some a) (hb : evP g n sc ρ (kid 1 e) = some b) : evP g (n + 1) sc ρ e = g.meth m o [a, b] := by
  generalize kid 0 e = arg at h ha
  generalize kid 1 e = arg2 at h hb
  generalize kid 9 e = o' at h ho
  generalize e.pos = pos at h
  generalize posN e = ap at h
  obtain ⟨h1, hc⟩ := Prod.mk.inj h
  subst h1
  have hc := hc.symm
  simp only [Bool.and_eq_true] at hc
  have : evP g (n + 1) sc ρ (.Call (.Attribute o' m ap) [arg, arg2] [] pos) = (if (([] : List Keyword).isEmpty && (ap.endLine == pos.line) && decide (([arg, arg2] : List Expr).length < 20) && notCall o') = true then (match evP g n sc ρ o', evL (evP g n sc ρ) [arg, arg2] with
      | some a, some ps => g.meth m a ps
      | _, _ => none) else none) := rfl
  rw [this, ho, evL_cons hc.1.2 ha (evL_cons hc.2 hb rfl), hc.1.1.1, hc.1.1.2]
  rfl

theorem callP_ret {g : Lang} {f : FnRec} {ps : List PV} {e : Expr} {p : PV} (hb : f.body = [.Return (some e) (posSt (stAt f 0))]) (hc : (decide (ps.length = f.names.length) && ps.all (·.stor)) = true) (he : evS g f.sc (argV (f.names.zip ps) fun _ => none) e = some p) : callP g f ps = some p := by
  unfold callP
  rw [if_pos hc, hb]
  generalize posSt (stAt f 0) = pos
  have h1 : runB g f.sc (399 + 1) [.Return (some e) pos] (argV (f.names.zip ps) fun _ => none) = (match evS g f.sc (argV (f.names.zip ps) fun _ => none) e with | some p => some (.ret p, argV (f.names.zip ps) fun _ => none) | none => none) := rfl
  rw [he] at h1
  show (match runB g f.sc (399 + 1) [.Return (some e) pos] (argV (f.names.zip ps) fun _ => none) with | some (.ret p, _) => some p | _ => none) = _
  rw [h1]

theorem fixVal {x : Str} (hx : x.cps.size ≤ 100000) : callP g0 fFix [.atom (.str x)] = some (.atom (.str ⟨(fix2 x.cps.toList).toArray⟩)) := by
  refine callP_ret (e := valE (stAt fFix 0)) (by kernel_rfl) (by kernel_rfl) ?_
  refine (evP_meth2 (n := 39) (m := Str.ofString "sub") (o := .fn (.ref re2A)) (a := .atom (.str crlfS)) (b := .atom (.str x)) (by kernel_rfl) (by kernel_rfl) (by kernel_rfl) (by kernel_rfl)).trans ?_
  have hS : subS (.ref re2A) (.atom (.str crlfS)) (.atom (.str x)) = some (.atom (.str ⟨(fix2 x.cps.toList).toArray⟩)) := if_pos ⟨rfl, rfl, hx⟩
  have : g0.meth (Str.ofString "sub") (.fn (.ref re2A)) [.atom (.str crlfS), .atom (.str x)] = subS (.ref re2A) (.atom (.str crlfS)) (.atom (.str x)) := by kernel_rfl
  rw [this, hS]

theorem quoteVal {x : Array UInt8} (hx : x.size ≤ 100000) : callP g0 fQuote [.atom (.bytes x)] = some (.atom (.bytes (u8 (quoteN true (natsOf x).toList)).toArray)) := by
  refine callP_ret (e := valE (stAt fQuote 0)) (by kernel_rfl) (by kernel_rfl) ?_
  refine (evP_meth2 (n := 39) (m := Str.ofString "sub") (o := .fn (.ref re1A)) (a := .atom (.bytes dotsB)) (b := .atom (.bytes x)) (by kernel_rfl) (by kernel_rfl) (by kernel_rfl) (by kernel_rfl)).trans ?_
  have hB : subB (.ref re1A) (.atom (.bytes dotsB)) (.atom (.bytes x)) = some (.atom (.bytes (u8 (quoteN true (natsOf x).toList)).toArray)) := if_pos ⟨rfl, rfl, hx⟩
  have : g0.meth (Str.ofString "sub") (.fn (.ref re1A)) [.atom (.bytes dotsB), .atom (.bytes x)] = (subB (.ref re1A) (.atom (.bytes dotsB)) (.atom (.bytes x))).or none := by kernel_rfl
  rw [this, hB]
  rfl

/-- the element of a comprehension that gives an atom -/
theorem eltF_atom {ev : Vars → Expr → Option PV} {ts : Vars → Expr → Option Bool} {cs : Scope} {γ ρ : Vars} {target elt : Expr} {it : PV} {bs : List (Str × PV)} {a : AV} (hb : bindP target it = some bs) (hn : boundNames cs bs = true) (ht : isTuple elt = false) (he : ev (inner cs γ ρ bs) elt = some (.atom a)) :
    eltF ev ts cs γ ρ target elt [] it = some (some (.atom a)) := by
  unfold eltF
  rw [hb]
  dsimp only
  rw [if_pos hn]
  have : eltV (ev (inner cs γ ρ bs)) elt = some (.atom a) := by
    unfold eltV
    split
    · cases ht
    · rw [he]; rfl
  simp only [ifsV, this, Option.map]

theorem app1_bytes (p : PV) : g1.app (.type "bytes") [p] [] = bytesP p := by kernel_rfl
theorem app1_chr (p : PV) : g1.app (.builtin "chr") [p] [] = chrP p := by kernel_rfl
theorem app1_quote (ps : List PV) : g1.app vQuote ps [] = callP g0 fQuote ps := by kernel_rfl
theorem app1_fix (ps : List PV) : g1.app vFix ps [] = callP g0 fFix ps := by kernel_rfl
theorem app1_lev (ps : List PV) : g1.app vLev ps [] = callP g0 fLev ps := by kernel_rfl
theorem app1_strip (ps : List PV) : g1.app vStrip ps [] = callP g0 fStrip ps := by kernel_rfl

/-! the octets -/
noncomputable def ρ1 (m : Str) (l : List (Str × PV)) : Vars := ofL ((Str.ofString "mail", .atom (.str m)) :: l)

noncomputable def octE : Expr := valE (stAt fSent 2)
noncomputable def octC : Expr := kid 0 (kid 0 octE)

theorem ordElt {n : Nat} {sc : Option Scope} {ρ : Vars} (c : Nat) : eltF (evP g1 (n + 5) none) (tsP g1 (n + 5) none) (scOf octC) γ0 ρ (kid 2 octC) (kid 0 octC) (ifsOf octC) (.atom (.str ⟨#[c]⟩)) = some (some (.atom (.int c))) := by kernel_rfl

theorem u8_nats (l : List Nat) (h : ∀ c ∈ l, c < 256) : (natsOf (byteArr (l.map fun (c : Nat) => (c : Int)))).toList = l := by
  unfold natsOf byteArr
  simp only [List.map_map]
  rw [Array.toList_map]
  simp only [List.map_map]
  conv => rhs; rw [← List.map_id l]
  refine List.map_congr_left fun c hc => ?_
  have := h c hc
  simp [UInt8.toNat_ofNat']
  omega

theorem octVal {m : Str} (hm : m.cps.size ≤ 10000) (hf : (fix2 m.cps.toList).length ≤ 10000) (hc : ∀ c ∈ fix2 m.cps.toList, c < 256) :
    evS g1 fSent.sc (ofL [(Str.ofString "mail", .atom (.str m))]) octE = some (.atom (.bytes (u8 (quoteN true (fix2 m.cps.toList))).toArray)) := by
  refine (evP_call1 (n := 38) (x := Str.ofString "_quote_periods") (v := vQuote) (a := .atom (.bytes (byteArr ((fix2 m.cps.toList).map fun (c : Nat) => (c : Int))))) (by kernel_rfl) (by kernel_rfl) (by kernel_rfl) (by kernel_rfl) ?_).trans ?_
  · refine (evP_call1 (n := 37) (x := Str.ofString "bytes") (v := .type "bytes") (a := .list ((fix2 m.cps.toList).map fun (c : Nat) => AV.int (c : Int))) (by kernel_rfl) (by kernel_rfl) (by kernel_rfl) (by kernel_rfl) ?_).trans ?_
    · refine evP_comp' (n := 37) (e := octC) (src := .atom (.str ⟨(fix2 m.cps.toList).toArray⟩)) (items := chars ⟨(fix2 m.cps.toList).toArray⟩) (out := (fix2 m.cps.toList).map fun (c : Nat) => PV.atom (.int (c : Int))) (by kernel_rfl) (by kernel_rfl) ?_ ?_ ?_ ?_
      · refine (evP_call1 (n := 35) (x := Str.ofString "_fix_eols") (v := vFix) (a := .atom (.str m)) (by kernel_rfl) (by kernel_rfl) (by kernel_rfl) (by kernel_rfl) (by kernel_rfl)).trans ?_
        rw [app1_fix]
        exact fixVal (by omega)
      · unfold itemsP
        dsimp only
        rw [if_pos]
        show (fix2 m.cps.toList).toArray.size ≤ _
        simp
        omega
      · have : chars ⟨(fix2 m.cps.toList).toArray⟩ = (fix2 m.cps.toList).map fun c => PV.atom (.str ⟨#[c]⟩) := by simp [chars]
        rw [this, compP_map (h := fun p => match p with | .atom (.str x) => .atom (.int (x.cps.getD 0 0)) | p => p)]
        · simp
        · intro it hit
          obtain ⟨c, _, rfl⟩ := List.mem_map.mp hit
          exact ordElt (n := 32) (sc := none) c
      · have : ((fix2 m.cps.toList).map fun (c : Nat) => PV.atom (.int (c : Int))) = ((fix2 m.cps.toList).map fun (c : Nat) => AV.int (c : Int)).map .atom := by simp
        rw [this]
        exact packP_list _
    · rw [app1_bytes]
      unfold bytesP
      have : ((fix2 m.cps.toList).map fun (c : Nat) => AV.int (c : Int)) = ((fix2 m.cps.toList).map fun (c : Nat) => (c : Int)).map .int := by simp
      rw [this]
      dsimp only
      rw [intsP_map]
      dsimp only
      rw [if_pos]
      rw [Bool.and_eq_true, List.all_eq_true]
      refine ⟨fun n hn => ?_, by simp; omega⟩
      obtain ⟨c, hc', rfl⟩ := List.mem_map.mp hn
      have := hc c hc'
      simp
      omega
  · rw [app1_quote, quoteVal, u8_nats _ hc]
    rw [byteArr_size, List.length_map]
    omega
end Mine

end

section -- Sent2
open PySem PySem.W PyProof.Rows
set_option maxRecDepth 100000
namespace Mine

theorem meth_join (x : Str) (l : List AV) : g1.meth (Str.ofString "join") (.atom (.str x)) [.list l] = (match strsP l with
        | some xs => if JoinOk x xs then some (.atom (.str (Txt.join x xs))) else none
        | none => none) := by kernel_rfl
theorem meth_split (x y : Str) : g1.meth (Str.ofString "split") (.atom (.str x)) [.atom (.str y)] = (if x.length ≤ 1000000 ∧ (y.length == 0) = false ∧ (Builtin.Str.partsBetween x (Builtin.Str.occurrences x y 0 x.length (x.length + 1)) y.length).length ≤ 1000000 then some (.list ((Txt.split x y).map .str)) else none) := by kernel_rfl

theorem octs_u8 (T : List Nat) (h : ∀ c ∈ T, c < 256) : octs (u8 T).toArray = T.map fun (c : Nat) => PV.atom (.int (c : Int)) := by
  unfold octs u8
  rw [List.map_map]
  refine List.map_congr_left fun c hc => ?_
  have := h c hc
  have e : c.toUInt8.toNat = c := by simp [UInt8.toNat_ofNat']; omega
  show PV.atom (.int (c.toUInt8.toNat : Int)) = _
  rw [e]

noncomputable def backE : Expr := valE (stAt fSent 3)
noncomputable def backJ : Expr := kid 9 backE
noncomputable def backC : Expr := kid 0 backJ
noncomputable def octN : Str := Str.ofString "octet"

theorem chrElt {n : Nat} {ρ : Vars} (c : Nat) (hc : c < 256) : eltF (evP g1 (n + 2) none) (tsP g1 (n + 2) none) (scOf backC) γ0 ρ (kid 2 backC) (kid 0 backC) (ifsOf backC) (.atom (.int (c : Int))) = some (some (.atom (.str ⟨#[c]⟩))) := by
  have hi : ifsOf backC = [] := by kernel_rfl
  rw [hi]
  refine eltF_atom (bs := [(octN, .atom (.int (c : Int)))]) (by kernel_rfl) (by kernel_rfl) (by kernel_rfl) ?_
  refine (evP_call1 (n := n) (x := Str.ofString "chr") (v := .builtin "chr") (a := .atom (.int (c : Int))) (by kernel_rfl) (by kernel_rfl) (by kernel_rfl) (by kernel_rfl) (by kernel_rfl)).trans ?_
  rw [app1_chr]
  unfold chrP
  dsimp only
  rw [if_pos (by omega)]
  rfl

theorem fold_len (d : Nat) : ∀ (xs : List Nat) (a : Nat), (xs.map fun c => (⟨#[c]⟩ : Str)).foldl (fun (n : Nat) (x : Str) => n + x.length + 0) a = a + xs.length
  | [], a => rfl
  | c :: r, a => by
    rw [List.map_cons, List.foldl_cons, fold_len d r]
    show a + 1 + 0 + r.length = _
    simp
    omega
theorem join_ok (T : List Nat) (h : T.length ≤ 100000) : JoinOk ⟨#[]⟩ (T.map fun c => (⟨#[c]⟩ : Str)) = true := by
  unfold JoinOk
  have e : (T.map fun c => (⟨#[c]⟩ : Str)).toArray.foldl (fun (n : Nat) (x : Str) => n + x.length + (⟨#[]⟩ : Str).length) 0 = T.length := by
    rw [List.foldl_toArray']
    · exact (fold_len 0 T 0).trans (by simp)
    · simp
  rw [e]
  unfold Builtin.Str.tooLong
  rw [sizeLine_is]
  simp
  omega
theorem join_is (T : List Nat) : Txt.join ⟨#[]⟩ (T.map fun c => (⟨#[c]⟩ : Str)) = mkS T := by
  have h := join_flat (T.map fun c => (⟨#[c]⟩ : Str))
  have e : flat (T.map fun c => (⟨#[c]⟩ : Str)) = T := by
    unfold flat
    induction T with
    | nil => rfl
    | cons c r ih => simpa using ih (join_flat _)
  rw [e] at h
  apply Str.ext'
  apply Array.toList_inj.mp
  rw [h]
  simp [mkS]

theorem backVal {ps : List (List Nat)} (hp : ∀ p ∈ ps, 13 ∉ p) (hc : ∀ c ∈ linesL ps, c < 256) (hl : (linesL ps).length ≤ 10000) :
    evS g1 fSent.sc (ofL [(Str.ofString "octets", .atom (.bytes (u8 (linesL ps)).toArray))]) backE = some (.list ((ps.map mkS ++ [(⟨#[]⟩ : Str)]).map AV.str)) := by
  refine (evP_meth1 (n := 39) (m := Str.ofString "split") (o := .atom (.str (mkS (linesL ps)))) (a := .atom (.str crlfS)) (by kernel_rfl) ?_ (by kernel_rfl)).trans ?_
  · refine (evP_meth1 (n := 38) (e := backJ) (m := Str.ofString "join") (o := .atom (.str ⟨#[]⟩)) (a := .list (((linesL ps).map fun c => (⟨#[c]⟩ : Str)).map .str)) (by kernel_rfl) (by kernel_rfl) ?_).trans ?_
    · refine evP_comp' (n := 37) (e := backC) (src := .atom (.bytes (u8 (linesL ps)).toArray)) (items := (linesL ps).map fun (c : Nat) => PV.atom (.int (c : Int))) (out := ((linesL ps).map fun c => PV.atom (AV.str (⟨#[c]⟩ : Str)))) (by kernel_rfl) (by kernel_rfl) (by kernel_rfl) ?_ ?_ ?_
      · unfold itemsP
        dsimp only
        rw [if_pos, octs_u8 _ hc]
        simp [u8]
        omega
      · rw [compP_map (h := fun p => match p with | .atom (.int x) => .atom (.str ⟨#[x.toNat]⟩) | p => p)]
        · simp
        · intro it hit
          obtain ⟨c, hcm, rfl⟩ := List.mem_map.mp hit
          exact chrElt (n := 35) c (hc c hcm)
      · have : ((linesL ps).map fun c => PV.atom (AV.str (⟨#[c]⟩ : Str))) = (((linesL ps).map fun c => (⟨#[c]⟩ : Str)).map AV.str).map .atom := by simp
        rw [this]
        exact packP_list _
    · rw [meth_join, strsP_map]
      dsimp only
      rw [if_pos (join_ok _ (by omega)), join_is]
  · have hz : (mkS (linesL ps)).length ≤ 1000000 ∧ (crlfS.length == 0) = false ∧ (Builtin.Str.partsBetween (mkS (linesL ps)) (Builtin.Str.occurrences (mkS (linesL ps)) crlfS 0 (mkS (linesL ps)).length ((mkS (linesL ps)).length + 1)) crlfS.length).length ≤ 1000000 := by
      have e : (mkS (linesL ps)).length = (linesL ps).length := by show (linesL ps).toArray.size = _; simp
      refine ⟨by omega, by rfl, ?_⟩
      rw [len_partsBetween]
      have := StrLaws.occ_length_le_len (mkS (linesL ps)) crlfS 0 (mkS (linesL ps)).length ((mkS (linesL ps)).length + 1)
      rw [e] at this ⊢
      omega
    rw [meth_split, if_pos hz, split_lines ps hp]
end Mine

end

section -- Sent3
open PySem PySem.W PyProof.Rows
set_option maxRecDepth 100000
namespace Mine

noncomputable def tails : List Str := [Str.ofString "@a", Str.ofString "@euro", Str.ofString "@b", Str.ofString "@c", Str.ofString "ISO8859-15"]
noncomputable def tab : List Row := ([1, 2, 3] : List Int).flatMap fun f => tails.map fun t => (f, t)
noncomputable def codes (r : Row) : List Nat := List.replicate (4 - r.1).toNat 46 ++ r.2.cps.toList
noncomputable def wr (r : Row) : Str := mkS (codes r)
noncomputable def down (r : Row) : Row := (r.1 - 1, r.2)

noncomputable def goodB (l : List Nat) : Bool := (l.head? == some 46) && (l.all fun c => !isSep c && decide (c < 256)) && decide (l.length ≤ 20)
theorem goodB_ok {l : List Nat} (h : goodB l = true) : GoodL l := by
  unfold goodB at h
  simp only [Bool.and_eq_true, List.all_eq_true, decide_eq_true_eq, Bool.not_eq_true'] at h
  obtain ⟨⟨h1, h2⟩, h3⟩ := h
  refine ⟨?_, fun c hc => h2 c hc, h3⟩
  cases l with
  | nil => simp at h1
  | cons a r => simp at h1; exact ⟨r, by rw [h1]⟩
theorem good_tab : ∀ r ∈ tab, GoodL (codes r) := fun r hr => goodB_ok ((by decide +kernel : ∀ r ∈ tab, goodB (codes r) = true) r hr)
theorem down_codes : ∀ r ∈ tab, 46 :: codes r = codes (down r) := by decide +kernel

noncomputable def retC : Expr := valE (stAt fSent 4)
theorem retElt (ρ : Vars) : (tab.all fun r => [true, false].all fun f => eltF (evP g1 39 none) (tsP g1 39 none) (scOf retC) γ0 ρ (kid 2 retC) (kid 0 retC) (ifsOf retC) (.atom (.str (mkS (quotL (codes r, f))))) == some (if f then none else some (.atom (.str (wr (down r)))))) = true := by kernel_rfl
theorem retElt0 (ρ : Vars) : eltF (evP g1 39 none) (tsP g1 39 none) (scOf retC) γ0 ρ (kid 2 retC) (kid 0 retC) (ifsOf retC) (.atom (.str ⟨#[]⟩)) = some none := by kernel_rfl

noncomputable def outS (l : List (Row × Bool)) : List Str := l.filterMap fun q => if q.2 then none else some (wr (down q.1))
noncomputable def qOf (q : Row × Bool) : List Nat × Bool := (codes q.1, q.2)

theorem comp_app {f : PV → Option (Option PV)} : ∀ {a b : List PV} {x y : List PV}, compP f a = some x → compP f b = some y → compP f (a ++ b) = some (x ++ y)
  | [], b, x, y, h1, h2 => by cases h1; exact h2
  | p :: a, b, x, y, h1, h2 => by
    rw [List.cons_append]
    unfold compP at h1 ⊢
    split at h1
    · rename_i q qs e1 e2
      cases h1
      rw [e1, comp_app e2 h2]
      rfl
    · rename_i qs e1 e2
      cases h1
      rw [e1, comp_app e2 h2]
    · cases h1

theorem retVal {l : List (Row × Bool)} (h : ∀ q ∈ l, q.1 ∈ tab) (hz : l.length ≤ 1000) :
    evS g1 fSent.sc (ofL [(Str.ofString "back", .list ((l.map (fun q => mkS (quotL (qOf q))) ++ [(⟨#[]⟩ : Str)]).map AV.str))]) retC = some (.list ((outS l).map .str)) := by
  refine evP_comp' (n := 39) (src := .list ((l.map (fun q => mkS (quotL (qOf q))) ++ [(⟨#[]⟩ : Str)]).map AV.str)) (items := l.map (fun q => PV.atom (.str (mkS (quotL (qOf q))))) ++ [PV.atom (.str ⟨#[]⟩)]) (out := (outS l).map fun x => PV.atom (.str x)) (by kernel_rfl) (by kernel_rfl) (by kernel_rfl) ?_ ?_ ?_
  · unfold itemsP
    dsimp only
    rw [if_pos (by simp; omega)]
    simp
  · rw [show (outS l).map (fun x => PV.atom (.str x)) = (outS l).map (fun x => PV.atom (.str x)) ++ [] from (List.append_nil _).symm]
    refine comp_app ?_ ?_
    · have key : ∀ q ∈ l, eltF (evP g1 39 none) (tsP g1 39 none) (scOf retC) γ0 (vis fSent.sc g1.γ (ofL [(Str.ofString "back", .list ((l.map (fun q => mkS (quotL (qOf q))) ++ [(⟨#[]⟩ : Str)]).map AV.str))])) (kid 2 retC) (kid 0 retC) (ifsOf retC) (.atom (.str (mkS (quotL (qOf q))))) = some (if q.2 then none else some (.atom (.str (wr (down q.1))))) := fun q hq => by
        have := retElt (vis fSent.sc g1.γ (ofL [(Str.ofString "back", .list ((l.map (fun q => mkS (quotL (qOf q))) ++ [(⟨#[]⟩ : Str)]).map AV.str))]))
        rw [List.all_eq_true] at this
        have := this q.1 (h q hq)
        rw [List.all_eq_true] at this
        exact beq_iff_eq.mp (this q.2 (by cases q.2 <;> simp))
      generalize vis fSent.sc g1.γ (ofL [(Str.ofString "back", .list ((l.map (fun q => mkS (quotL (qOf q))) ++ [(⟨#[]⟩ : Str)]).map AV.str))]) = ρ at key
      clear hz
      induction l with
      | nil => rfl
      | cons q l ih =>
        have h1 := key q List.mem_cons_self
        have h2 := ih (fun q hq => h q (List.mem_cons_of_mem _ hq)) fun q hq => key q (List.mem_cons_of_mem _ hq)
        rw [List.map_cons]
        unfold compP
        rw [show g1.γ = γ0 from rfl] at h2 ⊢
        rw [h1, h2]
        unfold outS
        rw [List.filterMap_cons]
        cases q.2 <;> rfl
    · unfold compP
      rw [show g1.γ = γ0 from rfl, retElt0]
      rfl
  · have : ((outS l).map fun x => PV.atom (.str x)) = ((outS l).map AV.str).map .atom := by simp
    rw [this]
    exact packP_list _
end Mine

end

section -- Sent4
open PySem PySem.W PyProof.Rows
set_option maxRecDepth 100000
namespace Mine

theorem mkS_app (a b : List Nat) : mkS a ++ mkS b = mkS (a ++ b) := by
  show (⟨a.toArray ++ b.toArray⟩ : Str) = ⟨(a ++ b).toArray⟩
  simp
theorem mkS_len (a : List Nat) : (mkS a).length = a.length := by
  show a.toArray.size = _
  simp

theorem addS {a b : List Nat} (h : a.length + b.length ≤ 1000000) : binP .Add (.atom (.str (mkS a))) (.atom (.str (mkS b))) = some (.atom (.str (mkS (a ++ b)))) := by
  show ((if (mkS a).length + (mkS b).length ≤ 1000000 then some (AV.str (mkS a ++ mkS b)) else none).map PV.atom) = _
  rw [mkS_len, mkS_len, if_pos h, mkS_app]
  rfl

theorem tsP_plain {g : Lang} {n : Nat} {sc : Option Scope} {ρ : Vars} {e : Expr} {a : PV} (h : e = .Subscript (kid 0 e) (kid 1 e) e.pos) (ha : evP g n sc ρ e = some a) : tsP g (n + 1) sc ρ e = truthP a := by
  generalize kid 0 e = l at h
  generalize kid 1 e = r at h
  generalize e.pos = p at h
  subst h
  have : tsP g (n + 1) sc ρ (.Subscript l r p) = (match evP g n sc ρ (.Subscript l r p) with | some a => truthP a | none => none) := rfl
  rw [this, ha]

theorem itemL {l : List AV} {i : Nat} {a : AV} (h : l[i]? = some a) (hi : i < 1000000) : itemP (.list l) (.atom (.int (i : Int))) = some (.atom a) := by
  unfold itemP
  dsimp only
  rw [if_pos ⟨by omega, by omega⟩, Int.toNat_natCast, h]
  rfl

theorem app1_len (p : PV) : g1.app (.builtin "len") [p] [] = lenP p := by kernel_rfl
theorem app1_range (p : PV) : g1.app (.type "range") [p] [] = rangeP p := by kernel_rfl

theorem fmod3 (m : Int) : m.fmod 3 = 0 ∨ m.fmod 3 = 1 ∨ m.fmod 3 = 2 := by
  have h1 := Int.fmod_nonneg_of_pos m (by decide : (0 : Int) < 3)
  have h2 := Int.fmod_lt_of_pos m (by decide : (0 : Int) < 3)
  omega

noncomputable def nRows : Str := Str.ofString "rows"
noncomputable def nFired : Str := Str.ofString "fired"
noncomputable def nKind : Str := Str.ofString "kind"
noncomputable def nMail : Str := Str.ofString "mail"
noncomputable def nI : Str := Str.ofString "i"
noncomputable def nEnd : Str := Str.ofString "end"

noncomputable def sLoop : Stmt := stAt fSent 1
noncomputable def b0 : Stmt := stIn (bodyOf sLoop) 0
noncomputable def b1 : Stmt := stIn (bodyOf sLoop) 1

noncomputable def envS (l : List (Row × Bool)) (kind : Int) : List (Str × PV) := [(nRows, .list (l.map fun q => .str (wr q.1))), (nFired, .list (l.map fun q => .bool q.2)), (nKind, .atom (.int kind))]

theorem endVal {l : List (Row × Bool)} {kind : Int} {i : Nat} {M : List Nat} : evS g1 fSent.sc (ofL ((nI, .atom (.int (i : Int))) :: (nMail, .atom (.str (mkS M))) :: envS l kind)) (valE b0) = some (.atom (.str (mkS (ends (kind + i))))) := by
  refine (evP_item (n := 39) (a := .list [.str (mkS [10]), .str (mkS [13]), .str (mkS [13, 10])]) (b := .atom (.int ((kind + i).fmod 3))) (by kernel_rfl) (by kernel_rfl) (by kernel_rfl)).trans ?_
  unfold ends
  rcases fmod3 (kind + i) with h | h | h <;> rw [h] <;> rfl

theorem mailVal {l : List (Row × Bool)} (hl : ∀ q ∈ l, q.1 ∈ tab) (hz : l.length ≤ 1000) {kind : Int} {i : Nat} {q : Row × Bool} (hq : l[i]? = some q) {M : List Nat} (hM : M.length ≤ 100000) :
    evS g1 fSent.sc (ofL ((nEnd, .atom (.str (mkS (ends (kind + i))))) :: (nI, .atom (.int (i : Int))) :: (nMail, .atom (.str (mkS M))) :: envS l kind)) (valE b1) = some (.atom (.str (mkS (M ++ (pieceL (qOf q) ++ ends (kind + i)))))) := by
  have hi : i < l.length := (List.getElem?_eq_some_iff.mp hq).1
  have hg := (good_tab q.1 (hl q (List.mem_of_getElem? hq))).len
  have he : (ends (kind + i)).length ≤ 2 := by unfold ends; split <;> (try split) <;> simp
  have h1 : (M ++ (if q.2 then [32] else [])).length ≤ 100001 := by
    rw [List.length_append]
    split <;> simp <;> omega
  refine (evP_bin (n := 39) (op := .Add) (a := .atom (.str (mkS (M ++ (if q.2 then [32] else []) ++ codes q.1)))) (b := .atom (.str (mkS (ends (kind + i))))) (by kernel_rfl) ?_ (by kernel_rfl)).trans ?_
  · refine (evP_bin (n := 38) (op := .Add) (a := .atom (.str (mkS (M ++ (if q.2 then [32] else []))))) (b := .atom (.str (mkS (codes q.1)))) (by kernel_rfl) ?_ ?_).trans ?_
    · refine (evP_bin (n := 37) (op := .Add) (a := .atom (.str (mkS M))) (b := .atom (.str (mkS (if q.2 then [32] else [])))) (by kernel_rfl) (by kernel_rfl) ?_).trans ?_
      · refine (evP_ifx (n := 36) (t := q.2) (by kernel_rfl) ?_).trans ?_
        · refine (tsP_plain (n := 35) (a := .atom (.bool q.2)) (by kernel_rfl) ?_).trans (by rfl)
          refine (evP_item (n := 34) (a := .list (l.map fun q => .bool q.2)) (b := .atom (.int (i : Int))) (by kernel_rfl) (by kernel_rfl) (by kernel_rfl)).trans ?_
          exact itemL (by rw [List.getElem?_map, hq]; rfl) (by omega)
        · cases q.2
          · exact (by kernel_rfl)
          · exact (by kernel_rfl)
      · refine addS ?_
        split <;> simp <;> omega
    · refine (evP_item (n := 37) (a := .list (l.map fun q => .str (wr q.1))) (b := .atom (.int (i : Int))) (by kernel_rfl) (by kernel_rfl) (by kernel_rfl)).trans ?_
      exact itemL (by rw [List.getElem?_map, hq]; rfl) (by omega)
    · exact addS (by omega)
  · refine (addS (by rw [List.length_append]; omega)).trans ?_
    have e : M ++ (if q.2 then [32] else []) ++ codes q.1 ++ ends (kind + i) = M ++ (pieceL (qOf q) ++ ends (kind + i)) := by
      unfold pieceL qOf
      cases q.2 <;> simp
    rw [e]

theorem take_snoc {α : Type} {l : List α} {i : Nat} {q : α} (h : l[i]? = some q) : l.take (i + 1) = l.take i ++ [q] := by
  rw [List.take_add_one, h]; rfl

section
variable {prog : Program} {w : World} {k : Nat} {s₀ : Shared} {h₁ : Heap} {d : FD}

theorem good_take {l : List (Row × Bool)} (hl : ∀ q ∈ l, q.1 ∈ tab) (i : Nat) : ∀ q ∈ (l.take i).map qOf, GoodL q.1 := fun q hq => by
  obtain ⟨r, hr, rfl⟩ := List.mem_map.mp hq
  exact good_tab _ (hl r (List.mem_of_mem_take hr))

theorem sent_runs (H : Host prog w g1 h₁ k d s₀) (hd : d.sc = fSent.sc) {l : List (Row × Bool)} (hl : ∀ q ∈ l, q.1 ∈ tab) (hz : l.length ≤ 100) {kind : Int} :
    Runs prog w k d s₀ (ofL (envS l kind)) fSent.body (fun f _ => f = .ret (.list ((outS l).map .str))) := by
  have hb : fSent.body = [stAt fSent 0, sLoop, stAt fSent 2, stAt fSent 3, stAt fSent 4] := by kernel_rfl
  have hgl := good_take hl l.length
  rw [List.take_length] at hgl
  rw [hb]
  refine Runs.assign H (x := nMail) (e := valE (stAt fSent 0)) (p := .atom (.str (mkS []))) (by kernel_rfl) (by rw [hd]; kernel_rfl) rfl (by rw [hd]; kernel_rfl) ?_
  refine Runs.cons (P1 := fun f ρ' => f = .next ∧ Sub (ofL [(nMail, .atom (.str (mkS (mailL kind 0 (l.map qOf)))))]) ρ') ?_ (fun ρ' hρ => ?_) (fun _ h => by cases h.1) (fun _ _ h => by cases h.1)
  · refine Runs.forS H (x := nI) (it := valE sLoop) (b := [b0, b1]) (m := l.length) (fun i ρ => Sub (ofL ((nMail, .atom (.str (mkS (mailL kind 0 ((l.take i).map qOf))))) :: envS l kind)) ρ) (by kernel_rfl) ?_ (by omega) (by rw [hd]; kernel_rfl) ?_ ?_ ?_
    · rw [hd]
      refine (evP_call1 (n := 38) (x := Str.ofString "range") (v := .type "range") (a := .atom (.int l.length)) (by kernel_rfl) (by kernel_rfl) (by kernel_rfl) (by kernel_rfl) ?_).trans ?_
      · refine (evP_call1 (n := 37) (x := Str.ofString "len") (v := .builtin "len") (a := .list (l.map fun q => .str (wr q.1))) (by kernel_rfl) (by kernel_rfl) (by kernel_rfl) (by kernel_rfl) (by kernel_rfl)).trans ?_
        rw [app1_len]
        unfold lenP
        dsimp only
        rw [if_pos (by simp; omega), List.length_map]
      · rw [app1_range]
        unfold rangeP
        dsimp only
        rw [if_pos (by omega)]
        rfl
    · exact Sub.refl _
    · intro i ρ hi hρ
      have hq : l[i]? = some l[i] := List.getElem?_eq_getElem hi
      have hML : (mailL kind 0 ((l.take i).map qOf)).length ≤ 100000 := by
        have := mail_len (kind := kind) 0 ((l.take i).map qOf) (good_take hl i)
        rw [List.length_map, List.length_take] at this
        omega
      have s1 : Sub (ofL ((nI, .atom (.int (i : Int))) :: (nMail, .atom (.str (mkS (mailL kind 0 ((l.take i).map qOf))))) :: envS l kind)) (upd ρ nI (.atom (.int (i : Int)))) := by
        rw [← upd_ofL]
        intro y p e
        unfold upd at e ⊢
        split at e
        · rename_i h; rw [if_pos h]; exact e
        · rename_i h; rw [if_neg h]; exact hρ _ _ e
      refine Runs.weaken s1 ?_
      refine Runs.assign H (x := nEnd) (e := valE b0) (by kernel_rfl) (by rw [hd]; exact endVal) rfl (by rw [hd]; kernel_rfl) ?_
      refine Runs.assign H (x := nMail) (e := valE b1) (by kernel_rfl) (by rw [hd]; exact mailVal hl (by omega) hq hML) rfl (by rw [hd]; kernel_rfl) ?_
      refine Runs.nil ?_
      show Sub (ofL ((nMail, .atom (.str (mkS (mailL kind 0 ((l.take (i + 1)).map qOf))))) :: envS l kind)) _
      have e : mailL kind 0 ((l.take (i + 1)).map qOf) = mailL kind 0 ((l.take i).map qOf) ++ (pieceL (qOf l[i]) ++ ends (kind + i)) := by
        rw [take_snoc hq, List.map_append, List.map_cons, List.map_nil, mail_snoc]
        have : (((l.take i).map qOf).length : Int) = i := by simp; omega
        rw [this, Int.zero_add]
      rw [e]
      exact sub_map (by kernel_rfl)
    · intro ρ hρ
      refine ⟨rfl, ?_⟩
      rw [List.take_length] at hρ
      exact Sub.trans (sub_map (by kernel_rfl)) hρ
  · have hfix := fix_mail (kind := kind) 0 (l.map qOf) hgl
    have hqu := quote_lines (l.map qOf) hgl
    have hML := mail_len (kind := kind) 0 (l.map qOf) hgl
    have hLL := lines_len (f := pieceL) (fun q => by unfold pieceL; split <;> simp; omega) (l.map qOf) hgl
    have hQL := lines_len (f := quotL) (fun q => by unfold quotL; split <;> simp <;> omega) (l.map qOf) hgl
    rw [List.length_map] at hML hLL hQL
    refine Runs.weaken hρ.2 ?_
    have ho := octVal (m := mkS (mailL kind 0 (l.map qOf))) (by show (mailL kind 0 (l.map qOf)).toArray.size ≤ _; simp; omega) (by
      show (fix2 (mailL kind 0 (l.map qOf)).toArray.toList).length ≤ _
      rw [List.toList_toArray, hfix]; omega) (by
      show ∀ c ∈ fix2 (mailL kind 0 (l.map qOf)).toArray.toList, c < 256
      rw [List.toList_toArray, hfix]
      exact lines_plain (fun q hq c hc => by
        unfold pieceL at hc
        rcases List.mem_append.mp hc with hc | hc
        · split at hc
          · rw [List.mem_singleton.mp hc]; decide
          · cases hc
        · exact (hq.plain c hc).2) _ hgl)
    have et : (mkS (mailL kind 0 (l.map qOf))).cps.toList = mailL kind 0 (l.map qOf) := by simp [mkS]
    rw [et, hfix, hqu] at ho
    refine Runs.assign H (x := Str.ofString "octets") (e := octE) (by kernel_rfl) (by rw [hd]; exact ho) rfl (by rw [hd]; kernel_rfl) ?_
    refine Runs.weaken (ρ₀ := ofL [(Str.ofString "octets", .atom (.bytes (u8 (linesL ((l.map qOf).map quotL))).toArray))]) (sub_map (by kernel_rfl)) ?_
    have hbk := backVal (ps := (l.map qOf).map quotL) (fun p hp => by
      obtain ⟨q, hq, rfl⟩ := List.mem_map.mp hp
      intro h13
      have := (quot_plain (hgl q hq) 13 h13).1
      cases this) (lines_plain (fun q hq c hc => (quot_plain hq c hc).2) _ hgl) (by omega)
    have e2 : ((l.map qOf).map quotL).map mkS = l.map (fun q => mkS (quotL (qOf q))) := by simp
    rw [e2] at hbk
    refine Runs.assign H (x := Str.ofString "back") (e := backE) (by kernel_rfl) (by rw [hd]; exact hbk) rfl (by rw [hd]; kernel_rfl) ?_
    refine Runs.weaken (ρ₀ := ofL [(Str.ofString "back", .list ((l.map (fun q => mkS (quotL (qOf q))) ++ [(⟨#[]⟩ : Str)]).map AV.str))]) (sub_map (by kernel_rfl)) ?_
    exact Runs.ret H (e := retC) (by kernel_rfl) (by rw [hd]; exact retVal hl (by omega)) rfl
end
end Mine

end

section -- Lang2
open PySem PySem.W PyProof.Rows
set_option maxRecDepth 100000
namespace Mine

noncomputable def boolsP : List AV → Option (List Bool)
  | [] => some []
  | .bool b :: r => (boolsP r).map (b :: ·)
  | _ => none
theorem boolsP_eq : ∀ {l : List AV} {bs : List Bool}, boolsP l = some bs → l = bs.map .bool
  | [], ns, h => by cases h; rfl
  | a :: r, ns, h => by
    cases a with
    | bool i =>
      simp only [boolsP, Option.map_eq_some_iff] at h
      obtain ⟨l', h', rfl⟩ := h
      rw [boolsP_eq h']; rfl
    | _ => first | exact no_some h | cases h
theorem boolsP_map (bs : List Bool) : boolsP (bs.map .bool) = some bs := by
  induction bs with
  | nil => rfl
  | cons a r ih => simp [boolsP, ih]

noncomputable def dec (x : Str) : Option Row := tab.find? fun r => wr r == x
theorem dec_wr : ∀ r ∈ tab, dec (wr r) = some r := by decide +kernel
theorem dec_some {x : Str} {r : Row} (h : dec x = some r) : r ∈ tab ∧ wr r = x := ⟨List.mem_of_find?_eq_some h, by have := List.find?_some h; exact beq_iff_eq.mp this⟩
noncomputable def decAll : List Str → Option (List Row)
  | [] => some []
  | x :: r => match dec x, decAll r with
    | some a, some l => some (a :: l)
    | _, _ => none
theorem decAll_some : ∀ {xs : List Str} {l : List Row}, decAll xs = some l → l.map wr = xs ∧ ∀ r ∈ l, r ∈ tab
  | [], l, h => by cases h; exact ⟨rfl, fun _ h => by cases h⟩
  | x :: xs, l, h => by
    unfold decAll at h
    split at h
    · rename_i a l' h1 h2
      cases h
      obtain ⟨e1, e2⟩ := dec_some h1
      obtain ⟨f1, f2⟩ := decAll_some h2
      refine ⟨by rw [List.map_cons, e2, f1], fun r hr => ?_⟩
      rcases List.mem_cons.mp hr with rfl | hr
      · exact e1
      · exact f2 r hr
    · first | exact no_some h | cases h
theorem decAll_map : ∀ (l : List Row), (∀ r ∈ l, r ∈ tab) → decAll (l.map wr) = some l
  | [], _ => rfl
  | a :: l, h => by
    rw [List.map_cons, decAll, dec_wr a (h a List.mem_cons_self), decAll_map l fun r hr => h r (List.mem_cons_of_mem _ hr)]

noncomputable def sentP (ps : List PV) : Option PV := match ps with
  | [.list rs, .list fs, .atom (.int _)] => match strsP rs, boolsP fs with
    | some xs, some bs => match decAll xs with
      | some l => if l.length = bs.length ∧ l.length ≤ 100 then some (.list ((outS (l.zip bs)).map .str)) else none
      | none => none
    | _, _ => none
  | _ => none

theorem sentVal {l : List Row} {bs : List Bool} {kd : Int} (hl : ∀ r ∈ l, r ∈ tab) (h : l.length = bs.length) (hz : l.length ≤ 100) :
    sentP [.list ((l.map wr).map .str), .list (bs.map .bool), .atom (.int kd)] = some (.list ((outS (l.zip bs)).map .str)) := by
  unfold sentP
  dsimp only
  rw [strsP_map, boolsP_map]
  dsimp only
  rw [decAll_map l hl]
  dsimp only
  rw [if_pos ⟨h, hz⟩]

noncomputable def appT (v : Value) (ps : List PV) (ks : List (Str × PV)) : Option PV :=
  if ks.isEmpty = true ∧ v = vSent then sentP ps
  else if ks.isEmpty = true ∧ v = vWrit then callP g1 fWrit ps
  else app1 v ps ks
noncomputable def gT : Lang := ⟨appT, meth0, γ0⟩

section
variable {prog : Program} {w : World} {h₁ : Heap}
theorem sent_ok (H : HeapOk h₁) {ps : List PV} {r : PV} (e : sentP ps = some r) :
    ∀ A (s : Shared) vs, Ok 4 A → Ext h₁ s.heap → Paired (Is s.heap) vs ps → Gives prog w A (call vSent vs []) r s := by
  unfold sentP at e
  split at e
  · rename_i rs fs kd
    split at e
    · rename_i xs bs h1 h2
      split at e
      · rename_i l h3
        split at e
        · rename_i h4
          cases e
          obtain ⟨e1, e2⟩ := decAll_some h3
          have r1 := strsP_eq h1
          have r2 := boolsP_eq h2
          subst r1 r2
          subst e1
          refine fun A s vs ok hx hvs => fun Q E hQ => fun_okR (app1_ok H) ((meth0_ok H).mono (by omega)) H.sent good_sent H.lim H.gl (ps := [.list ((l.map wr).map .str), .list (bs.map .bool), .atom (.int kd)]) (by kernel_rfl) (fun d s₀ hd hh => ?_) A s vs ok hx hvs Q E hQ
          have m1 : ((l.zip bs).map fun q => AV.str (wr q.1)) = (l.map wr).map .str := by
            rw [List.map_map]
            conv => rhs; rw [← List.map_fst_zip (l₁ := l) (l₂ := bs) (by omega)]
            rw [List.map_map]
            rfl
          have m2 : ((l.zip bs).map fun q => AV.bool q.2) = bs.map .bool := by
            conv => rhs; rw [← List.map_snd_zip (l₁ := l) (l₂ := bs) (by omega)]
            rw [List.map_map]
            rfl
          have key := sent_runs (l := l.zip bs) (kind := kd) hh hd (fun q hq => e2 _ (List.of_mem_zip hq).1) (by rw [List.length_zip]; omega)
          unfold envS at key
          rw [m1, m2] at key
          exact Runs.weaken (sub_map (by kernel_rfl)) key
        · first | exact no_some e | cases e
      · first | exact no_some e | cases e
    · first | exact no_some e | cases e
  · first | exact no_some e | cases e

theorem appT_ok (H : HeapOk h₁) : AppOk prog w gT h₁ 4 := by
  have hA : AppOk prog w g1 h₁ 3 := app1_ok H
  have hM : MethOk prog w g1 h₁ 3 := (meth0_ok H).mono (by omega)
  intro v ps ks r e
  replace e : appT v ps ks = some r := e
  unfold appT at e
  split at e
  · rename_i hc
    obtain ⟨hk, rfl⟩ := hc
    have := List.isEmpty_iff.mp hk
    subst this
    refine ⟨.inr (.inr ?_), fun _ _ => rfl, fun A s vs kvs ok hx hvs hk => ?_⟩
    · obtain ⟨o, pm, cd, doc, q1, q2, _⟩ := H.sent
      exact ⟨_, o, _, rfl, q1, q2⟩
    · have := kis_nil hk; subst this
      exact sent_ok H e A s vs ok hx hvs
  split at e
  · rename_i hc; obtain ⟨hk, rfl⟩ := hc; exact app_fn hA hM H.lim H.gl H.writ good_writ hk e
  · exact (hA.mono (n := 4) (by omega)) v ps ks r e
theorem methT_ok (H : HeapOk h₁) : MethOk prog w gT h₁ 4 := (meth0_ok H).mono (by omega)
end
end Mine

end

section -- Game1
open PySem PySem.W PyProof.Rows
set_option maxRecDepth 100000
namespace Mine

/-! sorting what is sorted -/
theorem runK_congr {n : Nat} {lt lt' : Nat → Nat → Bool} (h : ∀ i j, i < n → j < n → lt i j = lt' i j) : ∀ (t : KasT (Array Nat)), withinK n t = true → runK lt t = runK lt' t
  | .ret p, _ => rfl
  | .ask i j k, hw => by
    unfold withinK at hw
    simp only [Bool.and_eq_true, decide_eq_true_eq] at hw
    unfold runK
    rw [h i j hw.1.1.1 hw.1.1.2]
    cases lt' i j with
    | true => exact runK_congr h _ hw.1.2
    | false => exact runK_congr h _ hw.2

theorem sortIdx_id {lt : Nat → Nat → Bool} {n : Nat} (h5 : n ≤ 5) (h : ∀ i j, i < n → j < n → lt i j = decide (i < j)) : sortIdx lt n = List.range n := by
  unfold sortIdx
  split
  · rfl
  · rename_i h2
    rw [runK_congr (lt' := fun i j => decide (i < j)) h _ (within5 n h5 (by omega))]
    have : n = 2 ∨ n = 3 ∨ n = 4 ∨ n = 5 := by omega
    rcases this with rfl | rfl | rfl | rfl <;> decide +kernel

theorem sortBy_id {α : Type} {lt : α → α → Bool} {d : α} {l : List α} (h5 : l.length ≤ 5) (hr : ∀ a, lt a a = false) (hp : l.Pairwise fun a b => lt a b = true ∧ lt b a = false) : sortBy lt d l = l := by
  unfold sortBy
  rw [sortIdx_id h5]
  · apply List.ext_getElem
    · simp
    · intro i h1 h2
      simp [h2]
  · intro i j hi hj
    rw [List.getD_eq_getElem?_getD, List.getD_eq_getElem?_getD, List.getElem?_eq_getElem hi, List.getElem?_eq_getElem hj]
    show lt l[i] l[j] = _
    rw [List.pairwise_iff_getElem] at hp
    by_cases h1 : i < j
    · rw [(hp i j hi hj h1).1, decide_eq_true h1]
    · by_cases h2 : j < i
      · rw [(hp j i hj hi h2).2, decide_eq_false h1]
      · have : i = j := by omega
        subst this
        rw [hr, decide_eq_false h1]

theorem rowLt_irr (a : Row) : rowLt a a = false := by
  unfold rowLt
  simp
theorem strLt_irr (a : Str) : strLt a a = false := by
  unfold strLt
  exact decide_eq_false (by intro h; exact absurd h (List.lt_irrefl _))

/-! a book's order -/
noncomputable def tab0 : List Row := ([0, 1, 2, 3] : List Int).flatMap fun f => tails.map fun t => (f, t)
noncomputable def bef (a b : Row) : Bool := rowLt a b && !rowLt b a && strLt (wr a) (wr b) && !strLt (wr b) (wr a)
theorem bef_down : ∀ a ∈ tab, ∀ b ∈ tab, bef a b = true → bef (down a) (down b) = true := by decide +kernel
theorem bef_far : ∀ a ∈ tab, ∀ b ∈ tab, bef a b = true → a.1 ≤ b.1 := by decide +kernel
theorem down_tab : ∀ a ∈ tab, down a ∈ tab0 := by decide +kernel
theorem tab_tab0 : ∀ a ∈ tab, a ∈ tab0 := by decide +kernel
theorem tab_iff : ∀ a ∈ tab0, a.1 ≠ 0 → a ∈ tab := by decide +kernel
theorem tab0_far : ∀ a ∈ tab0, a.1 = 0 ∨ a.1 = 1 ∨ a.1 = 2 ∨ a.1 = 3 := by decide +kernel
theorem tab_far : ∀ a ∈ tab, a.1 = 1 ∨ a.1 = 2 ∨ a.1 = 3 := by decide +kernel

theorem sortRows_id {c : List Row} (h5 : c.length ≤ 5) (hp : c.Pairwise fun a b => bef a b = true) : sortRows c = c :=
  sortBy_id h5 rowLt_irr (hp.imp fun {a b} h => by
    unfold bef at h
    simp only [Bool.and_eq_true, Bool.not_eq_true'] at h
    exact ⟨h.1.1.1, h.1.1.2⟩)
theorem sortStrs_id {c : List Row} (h5 : c.length ≤ 5) (hp : c.Pairwise fun a b => bef a b = true) : sortStrs (c.map wr) = c.map wr :=
  sortBy_id (by simpa using h5) strLt_irr (List.pairwise_map.mpr (hp.imp fun {a b} h => by
    unfold bef at h
    simp only [Bool.and_eq_true, Bool.not_eq_true'] at h
    exact ⟨h.1.2, h.2⟩))

/-! the turn -/
noncomputable def nxt (l : List (Row × Bool)) : List Row := l.filterMap fun q => if q.2 then none else some (down q.1)
theorem outS_nxt (l : List (Row × Bool)) : outS l = (nxt l).map wr := by
  unfold outS nxt
  rw [List.map_filterMap]
  congr 1
  funext q
  cases q.2 <;> rfl

structure GoodC (t : Nat) (c : List Row) : Prop where
  len : c.length ≤ 5
  mem : ∀ r ∈ c, r ∈ tab
  top : ∀ r ∈ c, r.1 + t ≤ 3
  ord : c.Pairwise fun a b => bef a b = true

structure FinC (c : List Row) : Prop where
  len : c.length ≤ 5
  mem : ∀ r ∈ c, r ∈ tab0
  ord : c.Pairwise fun a b => bef a b = true

theorem GoodC.fin {t : Nat} {c : List Row} (g : GoodC t c) : FinC c := ⟨g.len, fun r hr => tab_tab0 r (g.mem r hr), g.ord⟩

theorem nxt_sub (l : List (Row × Bool)) : ∃ l' : List (Row × Bool), l'.Sublist l ∧ nxt l = l'.map fun q => down q.1 := by
  refine ⟨l.filter fun q => !q.2, List.filter_sublist, ?_⟩
  unfold nxt
  induction l with
  | nil => rfl
  | cons q l ih =>
    rw [List.filterMap_cons, List.filter_cons]
    cases q.2 <;> simp_all

theorem nxt_fin {t : Nat} {c : List Row} {bs : List Bool} (g : GoodC t c) (h : c.length = bs.length) : FinC (nxt (c.zip bs)) ∧ ∀ r ∈ nxt (c.zip bs), r.1 + (t + 1) ≤ 3 := by
  obtain ⟨l', hs, e⟩ := nxt_sub (c.zip bs)
  have hs1 : (l'.map (·.1)).Sublist c := by
    have := hs.map (·.1)
    rwa [List.map_fst_zip (by omega)] at this
  have e' : nxt (c.zip bs) = (l'.map (·.1)).map down := by rw [e]; simp
  have hm : ∀ r ∈ l'.map (·.1), r ∈ c := fun r hr => hs1.subset hr
  refine ⟨⟨?_, ?_, ?_⟩, ?_⟩
  · rw [e', List.length_map]
    exact Nat.le_trans hs1.length_le g.len
  · rw [e']
    intro r hr
    obtain ⟨r', hr', rfl⟩ := List.mem_map.mp hr
    exact down_tab _ (g.mem _ (hm _ hr'))
  · rw [e', List.pairwise_map]
    refine (g.ord.sublist hs1).imp_of_mem ?_
    intro a b ha hb hab
    exact bef_down _ (g.mem _ (hm _ ha)) _ (g.mem _ (hm _ hb)) hab
  · rw [e']
    intro r hr
    obtain ⟨r', hr', rfl⟩ := List.mem_map.mp hr
    have := g.top _ (hm _ hr')
    show r'.1 - 1 + (t + 1) ≤ 3
    omega

/-! the weights -/
noncomputable def wt (f : Int) : Int := 2 ^ (4 - f).toNat
noncomputable def Wf (l : List Int) : Int := (l.map wt).sum
noncomputable def fars (c : List Row) : List Int := c.map (·.1)
noncomputable def nxtF (l : List (Int × Bool)) : List Int := l.filterMap fun q => if q.2 then none else some (q.1 - 1)
theorem fars_nxt : ∀ (c : List Row) (bs : List Bool), fars (nxt (c.zip bs)) = nxtF ((fars c).zip bs)
  | [], _ => rfl
  | _ :: _, [] => rfl
  | r :: c, b :: bs => by
    have ih := fars_nxt c bs
    unfold nxt fars nxtF at *
    simp only [List.map_cons, List.zip_cons_cons, List.filterMap_cons]
    cases b with
    | true => exact ih
    | false => simp only [Bool.false_eq_true, if_false, List.map_cons]; rw [ih]; rfl

/-- the first beginning that weighs 8 or more -/
noncomputable def pf : Nat → Int → List Int → Nat
  | k, _, [] => k
  | k, a, f :: r => if a < 8 then pf (k + 1) (a + wt f) r else k
noncomputable def firedR (fl : List Int) (bit : Bool) : List Bool := (List.range fl.length).map fun i => (decide (i < pf 0 0 fl)) == bit
noncomputable def oneP (fl : List Int) (ps : List Bool) : Int := ((fl.zip ps).filterMap fun q => if q.2 then some (wt q.1) else none).sum
noncomputable def firedP (fl : List Int) (ps : List Bool) : List Bool := ps.map fun p => p == decide (Wf fl ≤ 2 * oneP fl ps)

noncomputable def allL : Nat → List (List Int)
  | 0 => [[]]
  | n + 1 => (allL n).flatMap fun l => [1 :: l, 2 :: l, 3 :: l]
noncomputable def allB : Nat → List (List Bool)
  | 0 => [[]]
  | n + 1 => (allB n).flatMap fun l => [true :: l, false :: l]
noncomputable def sortedB : List Int → Bool
  | [] => true
  | [_] => true
  | a :: b :: r => decide (a ≤ b) && sortedB (b :: r)
theorem mem_allL : ∀ (l : List Int), (∀ f ∈ l, f = 1 ∨ f = 2 ∨ f = 3) → l ∈ allL l.length
  | [], _ => List.mem_singleton.mpr rfl
  | f :: l, h => by
    refine List.mem_flatMap.mpr ⟨l, mem_allL l fun g hg => h g (List.mem_cons_of_mem _ hg), ?_⟩
    rcases h f List.mem_cons_self with rfl | rfl | rfl <;> simp
theorem mem_allB : ∀ (l : List Bool), l ∈ allB l.length
  | [] => List.mem_singleton.mpr rfl
  | b :: l => by
    refine List.mem_flatMap.mpr ⟨l, mem_allB l, ?_⟩
    cases b <;> simp
theorem sortedB_of : ∀ (l : List Int), l.Pairwise (· ≤ ·) → sortedB l = true
  | [], _ => rfl
  | [_], _ => rfl
  | a :: b :: r, h => by
    unfold sortedB
    rw [Bool.and_eq_true]
    exact ⟨decide_eq_true ((List.pairwise_cons.mp h).1 b List.mem_cons_self), sortedB_of _ (List.pairwise_cons.mp h).2⟩

noncomputable def allS (n : Nat) : List (List Int) := (allL n).filter sortedB
theorem fars_allS {t : Nat} {c : List Row} (g : GoodC t c) : fars c ∈ allS c.length := by
  refine List.mem_filter.mpr ⟨?_, ?_⟩
  · have := mem_allL (fars c) fun f hf => by
      obtain ⟨r, hr, rfl⟩ := List.mem_map.mp hf
      exact tab_far r (g.mem r hr)
    unfold fars at this ⊢
    rwa [List.length_map] at this
  · apply sortedB_of
    unfold fars
    rw [List.pairwise_map]
    exact g.ord.imp_of_mem fun {a b} ha hb h => bef_far a (g.mem a ha) b (g.mem b hb) h

noncomputable def okTurn (fl : List Int) : Bool := if 16 ≤ Wf fl then ([true, false].all fun bit => decide (16 ≤ Wf (nxtF (fl.zip (firedR fl bit))))) && decide (pf 0 0 fl ≤ fl.length) && decide (Wf (fl.take (pf 0 0 fl)) = 8)
  else (allB fl.length).all fun ps => decide (Wf (nxtF (fl.zip (firedP fl ps))) < 16)
theorem okTurns : ∀ n, n ≤ 5 → ∀ fl ∈ allS n, okTurn fl = true := by
  intro n hn
  have : n = 0 ∨ n = 1 ∨ n = 2 ∨ n = 3 ∨ n = 4 ∨ n = 5 := by omega
  rcases this with rfl | rfl | rfl | rfl | rfl | rfl <;> decide +kernel
end Mine

end

section -- Law1
open PySem PySem.W PyProof.Rows
set_option maxRecDepth 100000
namespace Mine

noncomputable def nBook : Str := Str.ofString "book"
noncomputable def nRich : Str := Str.ofString "rich"
noncomputable def nDraws : Str := Str.ofString "draws"
noncomputable def nBound : Str := Str.ofString "bound"
noncomputable def nTurn : Str := Str.ofString "turn"
noncomputable def nAway : Str := Str.ofString "away"
noncomputable def nWeights : Str := Str.ofString "weights"
noncomputable def nDeed : Str := Str.ofString "deed"
noncomputable def nFirst : Str := Str.ofString "first"

noncomputable def lsc : Scope := fLaw.sc
noncomputable def tb (i : Nat) : Stmt := stIn (bodyOf (stAt fLaw 10)) i

noncomputable def env0 (D : PV) (bnd : Int) (rich : Bool) (R B : PV) : List (Str × PV) := [(nDraws, D), (nBound, .atom (.int bnd)), (nRich, .atom (.bool rich)), (nRows, R), (nBook, B)]
noncomputable def env1 (t : Nat) (D : PV) (bnd : Int) (rich : Bool) (R B : PV) : List (Str × PV) := (nTurn, .atom (.int (t : Int))) :: env0 D bnd rich R B

section
variable {t : Nat} {D : PV} {bnd : Int} {rich : Bool} {R B W A F P : PV}

theorem t0Val : evS gT lsc (ofL (env1 t D bnd rich R B)) (valE (tb 0)) = sortedP B := by kernel_rfl
theorem t1Val : evS gT lsc (ofL ((nBook, P) :: env1 t D bnd rich R B)) (valE (tb 1)) = sortedKP R := by kernel_rfl

theorem comp_list {g : Lang} {n : Nat} {osc : Scope} {ρ : Vars} {e : Expr} {h : AV → AV} {l : List AV} (hc : e = .ListComp (kid 0 e) [⟨kid 2 e, kid 1 e, ifsOf e, 0⟩] (scOf e) e.pos) (hok : scopeOk osc (scOf e) = true) (hs : evP g n (some osc) ρ (kid 1 e) = some (.list l)) (hz : l.length ≤ 1000000) (ht : isTuple (kid 0 e) = false)
    (helt : ∀ a ∈ l, eltF (evP g n none) (tsP g n none) (scOf e) g.γ ρ (kid 2 e) (kid 0 e) (ifsOf e) (.atom a) = some (some (.atom (h a)))) : evP g (n + 1) (some osc) ρ e = some (.list (l.map h)) := by
  refine evP_comp' (src := .list l) (items := l.map .atom) (out := (l.map h).map .atom) hc hok hs ?_ ?_ ?_
  · unfold itemsP
    dsimp only
    rw [if_pos hz]
  · rw [compP_map (h := fun p => match p with | .atom a => .atom (h a) | p => p)]
    · simp
    · intro it hit
      obtain ⟨a, ha, rfl⟩ := List.mem_map.mp hit
      exact helt a ha
  · rw [ht]
    exact packP_list _

theorem comp_tups {g : Lang} {n : Nat} {osc : Scope} {ρ : Vars} {e : Expr} {h : Row → AV} {c : List Row} (hc : e = .ListComp (kid 0 e) [⟨kid 2 e, kid 1 e, ifsOf e, 0⟩] (scOf e) e.pos) (hok : scopeOk osc (scOf e) = true) (hs : evP g n (some osc) ρ (kid 1 e) = some (.tups (c.map rowAV))) (hz : c.length ≤ 1000000) (ht : isTuple (kid 0 e) = false)
    (helt : ∀ r ∈ c, eltF (evP g n none) (tsP g n none) (scOf e) g.γ ρ (kid 2 e) (kid 0 e) (ifsOf e) (.tup (rowAV r)) = some (some (.atom (h r)))) : evP g (n + 1) (some osc) ρ e = some (.list (c.map h)) := by
  refine evP_comp' (src := .tups (c.map rowAV)) (items := c.map fun r => .tup (rowAV r)) (out := (c.map h).map .atom) hc hok hs ?_ ?_ ?_
  · unfold itemsP
    dsimp only
    rw [if_pos (by simpa using hz)]
    simp
  · have key : ∀ c : List Row, (∀ r ∈ c, eltF (evP g n none) (tsP g n none) (scOf e) g.γ ρ (kid 2 e) (kid 0 e) (ifsOf e) (.tup (rowAV r)) = some (some (.atom (h r)))) → compP (eltF (evP g n none) (tsP g n none) (scOf e) g.γ ρ (kid 2 e) (kid 0 e) (ifsOf e)) (c.map fun r => .tup (rowAV r)) = some ((c.map h).map .atom) := by
      intro c
      induction c with
      | nil => intro _; rfl
      | cons r c ih =>
        intro hh
        rw [List.map_cons, compP, hh r List.mem_cons_self, ih fun r hr => hh r (List.mem_cons_of_mem _ hr)]
        rfl
    exact key c helt
  · rw [ht]
    exact packP_list _

noncomputable def rowsPV (c : List Row) : PV := .list ((c.map wr).map .str)
noncomputable def bookPV (c : List Row) : PV := .tups (c.map rowAV)
noncomputable def awayPV (c : List Row) : PV := .list (c.map fun r => .int (2 * r.1))
noncomputable def weightsPV (c : List Row) : PV := .list (c.map fun r => .int (wt r.1))

theorem awayElt : (tab.all fun r => eltF (evP gT 39 none) (tsP gT 39 none) (scOf (valE (tb 2))) γ0 (vis lsc γ0 (ofL (env1 t D bnd rich R B))) (kid 2 (valE (tb 2))) (kid 0 (valE (tb 2))) (ifsOf (valE (tb 2))) (.atom (.str (wr r))) == some (some (.atom (.int (2 * r.1))))) = true := by kernel_rfl

noncomputable def hAway : AV → AV
  | .str x => match dec x with
    | some r => .int (2 * r.1)
    | none => .none
  | a => a

theorem hAway_wr {r : Row} (h : r ∈ tab) : hAway (.str (wr r)) = .int (2 * r.1) := by
  have e : hAway (.str (wr r)) = (match dec (wr r) with | some r => AV.int (2 * r.1) | none => .none) := rfl
  rw [e, dec_wr r h]

theorem t2Val {c : List Row} (hc : ∀ r ∈ c, r ∈ tab) (hz : c.length ≤ 1000) : evS gT lsc (ofL (env1 t D bnd rich (rowsPV c) B)) (valE (tb 2)) = some (awayPV c) := by
  refine (comp_list (n := 39) (l := (c.map wr).map .str) (h := hAway) (by kernel_rfl) (by kernel_rfl) (by kernel_rfl) (by simp; omega) (by kernel_rfl) ?_).trans ?_
  · intro a ha
    obtain ⟨x, hx, rfl⟩ := List.mem_map.mp ha
    obtain ⟨r, hr, rfl⟩ := List.mem_map.mp hx
    have := awayElt (t := t) (D := D) (bnd := bnd) (rich := rich) (R := rowsPV c) (B := B)
    rw [List.all_eq_true] at this
    have := beq_iff_eq.mp (this r (hc r hr))
    refine this.trans ?_
    rw [hAway_wr (hc r hr)]
  · unfold awayPV
    congr 2
    rw [List.map_map, List.map_map]
    refine List.map_congr_left fun r hr => ?_
    exact hAway_wr (hc r hr)

theorem eqD_refl {p : PV} {a : PyData} (h : p.toPy = some a) (hc : a.canLay0 = true) (hd : a.depth ≤ 50) : eqD p p = some true := by
  unfold eqD
  rw [h]
  dsimp only
  rw [hc, decide_eq_true hd, SeqAt.eqv_refl a hc]
  rfl
theorem allPy_strs (l : List Str) : allPy (l.map .str) = some (l.map PyData.str) := by
  induction l with
  | nil => rfl
  | cons a r ih => simp [allPy, AV.toPy, ih]
theorem allPy_ints (l : List Int) : allPy (l.map .int) = some (l.map PyData.int) := by
  induction l with
  | nil => rfl
  | cons a r ih => simp [allPy, AV.toPy, ih]
theorem lay_strs : ∀ (l : List Str), (∀ x ∈ l, PyData.strOk x = true) → PyData.canLayAll0 (l.map PyData.str) = true ∧ PyData.depthAll (l.map PyData.str) = 0
  | [], _ => ⟨rfl, rfl⟩
  | x :: l, h => by
    obtain ⟨h1, h2⟩ := lay_strs l fun y hy => h y (List.mem_cons_of_mem _ hy)
    refine ⟨?_, ?_⟩
    · rw [List.map_cons, PyData.canLayAll0, PyData.canLay0, h x List.mem_cons_self, h1]; rfl
    · rw [List.map_cons, PyData.depthAll, PyData.depth, h2]; rfl
theorem lay_ints : ∀ (l : List Int), PyData.canLayAll0 (l.map PyData.int) = true ∧ PyData.depthAll (l.map PyData.int) = 0
  | [] => ⟨rfl, rfl⟩
  | x :: l => by
    obtain ⟨h1, h2⟩ := lay_ints l
    refine ⟨?_, ?_⟩
    · rw [List.map_cons, PyData.canLayAll0, PyData.canLay0, h1]; rfl
    · rw [List.map_cons, PyData.depthAll, PyData.depth, h2]; rfl
theorem eq_strs {l : List Str} (h : ∀ x ∈ l, PyData.strOk x = true) : eqD (.list (l.map .str)) (.list (l.map .str)) = some true := by
  refine eqD_refl (a := .list (l.map .str)) (by simp [PV.toPy, allPy_strs]) ?_ ?_
  · rw [PyData.canLay0]; exact (lay_strs l h).1
  · rw [PyData.depth, (lay_strs l h).2]; omega
theorem eq_ints (l : List Int) : eqD (.list (l.map .int)) (.list (l.map .int)) = some true := by
  refine eqD_refl (a := .list (l.map .int)) (by simp [PV.toPy, allPy_ints]) ?_ ?_
  · rw [PyData.canLay0]; exact (lay_ints l).1
  · rw [PyData.depth, (lay_ints l).2]; omega
theorem ok_rows : ∀ r ∈ tab0, PyData.strOk (wr r) = true := by decide +kernel
theorem in_ints (l : List Int) : inD (.atom (.int 0)) (.list (l.map .int)) = some (l.any (· == 0)) := by
  unfold inD
  simp only [PV.toPy, AV.toPy, allPy_ints, Option.map_some]
  have e : ((PyData.int 0).canLay0 && PyData.canLayAll0 (l.map PyData.int) && decide ((PyData.int 0).depth ≤ 50)) = true := by
    rw [(lay_ints l).1]; rfl
  rw [if_pos e]
  have e2 : ((l.map PyData.int).any fun y => PyData.eqv y (.int 0)) = l.any (· == 0) := by
    induction l with
    | nil => rfl
    | cons a r ih =>
      rw [List.map_cons, List.any_cons, List.any_cons, ih (by rw [(lay_ints r).1]; rfl)]
      rfl
  rw [e2]

/-! _law_written -/
noncomputable def wrE : Expr := valE (stAt fWrit 0)
theorem wrElt (ρ : Vars) : (tab0.all fun r => eltF (evP g1 39 none) (tsP g1 39 none) (scOf wrE) γ0 ρ (kid 2 wrE) (kid 0 wrE) (ifsOf wrE) (.tup (rowAV r)) == some (some (.atom (.str (wr r))))) = true := by kernel_rfl
theorem writVal {c : List Row} (h : FinC c) : callP g1 fWrit [bookPV c] = some (rowsPV c) := by
  refine callP_ret (e := wrE) (by kernel_rfl) (by kernel_rfl) ?_
  refine (comp_tups (n := 39) (c := c) (h := fun r => .str (wr r)) (by kernel_rfl) (by kernel_rfl) ?_ (by have := h.len; omega) (by kernel_rfl) ?_).trans ?_
  · refine (evP_call1 (n := 37) (x := Str.ofString "sorted") (v := .builtin "sorted") (a := bookPV c) (by kernel_rfl) (by kernel_rfl) (by kernel_rfl) (by kernel_rfl) (by kernel_rfl)).trans ?_
    have : g1.app (.builtin "sorted") [bookPV c] [] = sortedP (bookPV c) := by kernel_rfl
    rw [this]
    unfold sortedP bookPV
    dsimp only
    rw [rowsP_map]
    show (if c.length ≤ 5 then some (PV.tups ((sortRows c).map rowAV)) else none) = _
    rw [if_pos h.len, sortRows_id h.len h.ord]
  · intro r hr
    have := wrElt (vis fWrit.sc g1.γ (argV (fWrit.names.zip [bookPV c]) fun _ => none))
    rw [List.all_eq_true] at this
    exact beq_iff_eq.mp (this r (h.mem r hr))
  · unfold rowsPV
    rw [List.map_map]
    rfl

theorem appT_writ (ps : List PV) : gT.app vWrit ps [] = callP g1 fWrit ps := by kernel_rfl
theorem appT_sorted (p : PV) : gT.app (.builtin "sorted") [p] [] = sortedP p := by kernel_rfl
theorem appT_sum (p : PV) : gT.app (.builtin "sum") [p] [] = sumP p := by kernel_rfl

theorem tsP_or {g : Lang} {n : Nat} {sc : Option Scope} {ρ : Vars} {e : Expr} (h : e = .BoolOp .Or [kid 0 e, kid 1 e] e.pos) (ha : tsP g n sc ρ (kid 0 e) = some false) (hb : tsP g n sc ρ (kid 1 e) = some false) : tsP g (n + 1) sc ρ e = some false := by
  generalize kid 0 e = l at h ha
  generalize kid 1 e = r at h hb
  generalize e.pos = p at h
  subst h
  have : tsP g (n + 1) sc ρ (.BoolOp .Or [l, r] p) = (match tsP g n sc ρ l with | some true => some true | some false => (match tsP g n sc ρ r with | some true => some true | some false => some false | none => none) | none => none) := by
    show allT (tsP g n sc ρ) .Or [l, r] = _
    unfold allT
    cases tsP g n sc ρ l with
    | none => rfl
    | some b => cases b with
      | true => rfl
      | false =>
        show allT (tsP g n sc ρ) .Or [r] = _
        unfold allT
        cases tsP g n sc ρ r with
        | none => rfl
        | some b => cases b <;> rfl
  rw [this, ha, hb]

noncomputable def t3 : Expr := valE (tb 3)
theorem t3Elt (ρ : Vars) (f : Int) (x : Str) : eltF (evP gT 37 none) (tsP gT 37 none) (scOf (kid 1 (kid 1 t3))) γ0 ρ (kid 2 (kid 1 (kid 1 t3))) (kid 0 (kid 1 (kid 1 t3))) (ifsOf (kid 1 (kid 1 t3))) (.tup [.int f, .str x]) = some (some (.atom (.int (2 * f)))) := by kernel_rfl

theorem t3Val {c : List Row} (h : FinC c) : tsS gT lsc (ofL ((nAway, awayPV c) :: env1 t D bnd rich (rowsPV c) (bookPV c))) t3 = some false := by
  refine tsP_or (n := 39) (by kernel_rfl) ?_ ?_
  · refine (tsP_cmp (n := 38) (op := .NotEq) (a := rowsPV c) (b := rowsPV c) (by kernel_rfl) (by kernel_rfl) ?_).trans ?_
    · refine (evP_call1 (n := 36) (x := Str.ofString "_law_written") (v := vWrit) (a := bookPV c) (by kernel_rfl) (by kernel_rfl) (by kernel_rfl) (by kernel_rfl) (by kernel_rfl)).trans ?_
      rw [appT_writ, writVal h]
    · show (eqD (rowsPV c) (rowsPV c)).map (!·) = _
      unfold rowsPV
      rw [eq_strs]
      · rfl
      · intro x hx
        obtain ⟨r, hr, rfl⟩ := List.mem_map.mp hx
        exact ok_rows r (h.mem r hr)
  · refine (tsP_cmp (n := 38) (op := .NotEq) (a := awayPV c) (b := awayPV c) (by kernel_rfl) (by kernel_rfl) ?_).trans ?_
    · exact comp_tups (n := 37) (e := kid 1 (kid 1 t3)) (c := c) (h := fun r => .int (2 * r.1)) (by kernel_rfl) (by kernel_rfl) (by kernel_rfl) (by have := h.len; omega) (by kernel_rfl) fun r _ => t3Elt _ r.1 r.2
    · show (eqD (awayPV c) (awayPV c)).map (!·) = _
      have : awayPV c = .list ((c.map fun r => 2 * r.1).map .int) := by unfold awayPV; rw [List.map_map]; rfl
      rw [this, eq_ints]
      rfl

theorem t4Elt (ρ : Vars) : (([0, 1, 2, 3] : List Int).all fun f => eltF (evP gT 39 none) (tsP gT 39 none) (scOf (valE (tb 4))) γ0 ρ (kid 2 (valE (tb 4))) (kid 0 (valE (tb 4))) (ifsOf (valE (tb 4))) (.atom (.int (2 * f))) == some (some (.atom (.int (wt f))))) = true := by kernel_rfl
noncomputable def hW : AV → AV
  | .int a => .int (wt (a / 2))
  | a => a
theorem t4Val {c : List Row} (h : FinC c) : evS gT lsc (ofL ((nAway, awayPV c) :: env1 t D bnd rich R B)) (valE (tb 4)) = some (weightsPV c) := by
  refine (comp_list (n := 39) (l := c.map fun r => .int (2 * r.1)) (h := hW) (by kernel_rfl) (by kernel_rfl) (by kernel_rfl) (by have := h.len; simp; omega) (by kernel_rfl) ?_).trans ?_
  · intro a ha
    obtain ⟨r, hr, rfl⟩ := List.mem_map.mp ha
    have := t4Elt (vis lsc gT.γ (ofL ((nAway, awayPV c) :: env1 t D bnd rich R B)))
    rw [List.all_eq_true] at this
    have hf : r.1 ∈ ([0, 1, 2, 3] : List Int) := by rcases tab0_far r (h.mem r hr) with e | e | e | e <;> rw [e] <;> decide
    refine (beq_iff_eq.mp (this r.1 hf)).trans ?_
    show _ = some (some (PV.atom (AV.int (wt (2 * r.1 / 2)))))
    rw [show 2 * r.1 / 2 = r.1 by omega]
  · unfold weightsPV
    congr 2
    rw [List.map_map]
    refine List.map_congr_left fun r hr => ?_
    show AV.int (wt (2 * r.1 / 2)) = _
    rw [show 2 * r.1 / 2 = r.1 by omega]
end
end Mine

end

section -- Law2
open PySem PySem.W PyProof.Rows
set_option maxRecDepth 100000
namespace Mine

noncomputable def D7 (d0 d1 d2 d3 d4 d5 d6 : Int) : PV := .list [.int d0, .int d1, .int d2, .int d3, .int d4, .int d5, .int d6]
noncomputable def dOf (t : Nat) (d4 d5 d6 : Int) : Int := if t = 0 then d4 else if t = 1 then d5 else d6
noncomputable def env2 (dd : Int) (W D : PV) (bnd : Int) (rich : Bool) (R B : PV) : List (Str × PV) := (nDeed, .atom (.int dd)) :: (nWeights, W) :: env0 D bnd rich R B

section
variable {t : Nat} {D : PV} {bnd dd : Int} {rich : Bool} {R B W A F P : PV}

theorem t5Val {d0 d1 d2 d3 d4 d5 d6 : Int} (ht : t < 3) : evS gT lsc (ofL ((nWeights, W) :: (nAway, A) :: env1 t (D7 d0 d1 d2 d3 d4 d5 d6) bnd rich R B)) (valE (tb 5)) = some (.atom (.int (dOf t d4 d5 d6))) := by
  have : t = 0 ∨ t = 1 ∨ t = 2 := by omega
  rcases this with rfl | rfl | rfl <;> kernel_rfl

theorem t6Val : tsS gT lsc (ofL (env2 dd W D bnd rich R B)) (valE (tb 6)) = some rich := by kernel_rfl

/-! the rich branch -/
noncomputable def rb (i : Nat) : Stmt := stIn (bodyOf (tb 6)) i
theorem r0Val : evS gT lsc (ofL (env2 dd W D bnd rich R B)) (valE (rb 0)) = some (.atom (.int 0)) := by kernel_rfl
noncomputable def whE : Expr := match rb 1 with
  | .While t _ _ _ => t
  | _ => .Name ⟨#[]⟩ ⟨0, 0, 0, 0⟩
noncomputable def whB : List Stmt := bodyOf (rb 1)

theorem sumW {n : Nat} {sc : Option Scope} {ρ : Vars} {e : Expr} {c : List Row} {i : Nat} (h1 : e = .Call (.Name (Str.ofString "sum") (posN e)) [kid 0 e] [] e.pos) (h2 : noStar (kid 0 e) = true) (h3 : ρ (Str.ofString "sum") = some (.fn (.builtin "sum"))) (h4 : kid 0 e = .Subscript (kid 0 (kid 0 e)) (.Slice none (some (kid 1 (kid 0 e))) none (posN (kid 0 e))) (kid 0 e).pos) (hz : c.length ≤ 1000)
    (h5 : evP gT n sc ρ (kid 0 (kid 0 e)) = some (weightsPV c)) (h6 : evP gT n sc ρ (kid 1 (kid 0 e)) = some (.atom (.int (i : Int)))) : evP gT (n + 2) sc ρ e = some (.atom (.int (Wf ((fars c).take i)))) := by
  refine (evP_call1 (n := n) (x := Str.ofString "sum") (v := .builtin "sum") (a := .list (((fars c).take i).map fun f => .int (wt f))) h1 h2 (by decide +kernel) h3 ?_).trans ?_
  · refine (evP_to (n := n) h4 h5 h6).trans ?_
    unfold sliceP weightsPV
    dsimp only
    rw [if_pos ⟨by omega, by simp; omega⟩, Int.toNat_natCast]
    unfold fars
    rw [← List.map_take, ← List.map_take, List.map_map]
    rfl
  · rw [appT_sum]
    unfold sumP
    dsimp only
    have : (((fars c).take i).map fun f => AV.int (wt f)) = (((fars c).take i).map wt).map .int := by rw [List.map_map]; rfl
    rw [this, intsP_map]
    rfl

theorem r1Val {c : List Row} {i : Nat} (hz : c.length ≤ 1000) : tsS gT lsc (ofL ((nFirst, .atom (.int (i : Int))) :: env2 dd (weightsPV c) D bnd rich R B)) whE = some (decide (Wf ((fars c).take i) < 8)) := by
  refine (tsP_cmp (n := 39) (op := .Lt) (a := .atom (.int (Wf ((fars c).take i)))) (b := .atom (.int 8)) (by kernel_rfl) ?_ (by kernel_rfl)).trans rfl
  exact sumW (n := 37) (by kernel_rfl) (by kernel_rfl) (by kernel_rfl) (by kernel_rfl) hz (by kernel_rfl) (by kernel_rfl)

theorem r1Step {i : Nat} : evS gT lsc (ofL ((nFirst, .atom (.int (i : Int))) :: env2 dd W D bnd rich R B)) (valE (stIn whB 0)) = some (.atom (.int ((i : Int) + 1))) := by kernel_rfl

theorem r2Val {c : List Row} {i : Nat} (hz : c.length ≤ 1000) (h8 : Wf ((fars c).take i) = 8) : tsS gT lsc (ofL ((nFirst, .atom (.int (i : Int))) :: env2 dd (weightsPV c) D bnd rich R B)) (valE (rb 2)) = some false := by
  refine (tsP_cmp (n := 39) (op := .NotEq) (a := .atom (.int (Wf ((fars c).take i)))) (b := .atom (.int 8)) (by kernel_rfl) ?_ (by kernel_rfl)).trans ?_
  · exact sumW (n := 37) (by kernel_rfl) (by kernel_rfl) (by kernel_rfl) (by kernel_rfl) hz (by kernel_rfl) (by kernel_rfl)
  · rw [h8]; kernel_rfl

noncomputable def bitR (dd : Int) : Bool := PyData.eqv (.int (dd.fmod 2)) (.int 1)
noncomputable def boolsPV (bs : List Bool) : PV := .list (bs.map .bool)

theorem r3Val {c : List Row} {j : Nat} (h5 : c.length ≤ 5) : evS gT lsc (ofL ((nFirst, .atom (.int (j : Int))) :: env2 dd W D bnd rich (rowsPV c) B)) (valE (rb 3)) = some (boolsPV ((List.range c.length).map fun (i : Nat) => (decide ((i : Int) < (j : Int))) == bitR dd)) := by
  match c, h5 with
  | [], _ => kernel_rfl
  | [_], _ => kernel_rfl
  | [_, _], _ => kernel_rfl
  | [_, _, _], _ => kernel_rfl
  | [_, _, _, _], _ => kernel_rfl
  | [_, _, _, _, _], _ => kernel_rfl
  | _ :: _ :: _ :: _ :: _ :: _ :: _, h => simp at h

/-! the poor branch -/
noncomputable def pb (i : Nat) : Stmt := stIn (elseOf (tb 6)) i
noncomputable def nParted : Str := Str.ofString "parted"
noncomputable def nOne : Str := Str.ofString "one"
noncomputable def nHeavier : Str := Str.ofString "heavier"
noncomputable def bitP (dd : Int) (i : Nat) : Bool := PyData.eqv (.int ((dd.fdiv (2 ^ i)).fmod 2)) (.int 1)

theorem p0Val {c : List Row} (h5 : c.length ≤ 5) : evS gT lsc (ofL (env2 dd W D bnd rich (rowsPV c) B)) (valE (pb 0)) = some (boolsPV ((List.range c.length).map (bitP dd))) := by
  match c, h5 with
  | [], _ => kernel_rfl
  | [_], _ => kernel_rfl
  | [_, _], _ => kernel_rfl
  | [_, _, _], _ => kernel_rfl
  | [_, _, _, _], _ => kernel_rfl
  | [_, _, _, _, _], _ => kernel_rfl
  | _ :: _ :: _ :: _ :: _ :: _ :: _, h => simp at h
end
end Mine

end

section -- Law3
open PySem PySem.W PyProof.Rows
set_option maxRecDepth 100000
namespace Mine

section
variable {t : Nat} {D : PV} {bnd dd : Int} {rich : Bool} {R B W A F P : PV}

theorem p1Val {c : List Row} {ps : List Bool} (h5 : c.length ≤ 5) (hl : c.length = ps.length) : evS gT lsc (ofL ((nParted, boolsPV ps) :: env2 dd (weightsPV c) D bnd rich (rowsPV c) B)) (valE (pb 1)) = some (.atom (.int (oneP (fars c) ps))) := by
  match c, ps, h5, hl with
  | [], [], _, _ => kernel_rfl
  | [c0], [p0], _, _ => cases p0 <;> kernel_rfl
  | [c0, c1], [p0, p1], _, _ => cases p0 <;> cases p1 <;> kernel_rfl
  | [c0, c1, c2], [p0, p1, p2], _, _ => cases p0 <;> cases p1 <;> cases p2 <;> kernel_rfl
  | [c0, c1, c2, c3], [p0, p1, p2, p3], _, _ => cases p0 <;> cases p1 <;> cases p2 <;> cases p3 <;> kernel_rfl
  | [c0, c1, c2, c3, c4], [p0, p1, p2, p3, p4], _, _ => cases p0 <;> cases p1 <;> cases p2 <;> cases p3 <;> cases p4 <;> kernel_rfl
  | _ :: _ :: _ :: _ :: _ :: _ :: _, _, h, _ => simp at h

theorem p2Val {c : List Row} {o : Int} (h5 : c.length ≤ 5) : evS gT lsc (ofL ((nOne, .atom (.int o)) :: (nParted, P) :: env2 dd (weightsPV c) D bnd rich R B)) (valE (pb 2)) = some (.atom (.bool (decide (Wf (fars c) ≤ 2 * o)))) := by
  match c, h5 with
  | [], _ => kernel_rfl
  | [c0], _ => kernel_rfl
  | [c0, c1], _ => kernel_rfl
  | [c0, c1, c2], _ => kernel_rfl
  | [c0, c1, c2, c3], _ => kernel_rfl
  | [c0, c1, c2, c3, c4], _ => kernel_rfl
  | _ :: _ :: _ :: _ :: _ :: _ :: _, h => simp at h

theorem p3Val {ps : List Bool} {hv : Bool} (h5 : ps.length ≤ 5) : evS gT lsc (ofL ((nHeavier, .atom (.bool hv)) :: (nOne, A) :: (nParted, boolsPV ps) :: env2 dd W D bnd rich R B)) (valE (pb 3)) = some (boolsPV (ps.map fun p => p == hv)) := by
  match ps, h5 with
  | [], _ => kernel_rfl
  | [p0], _ => kernel_rfl
  | [p0, p1], _ => kernel_rfl
  | [p0, p1, p2], _ => kernel_rfl
  | [p0, p1, p2, p3], _ => kernel_rfl
  | [p0, p1, p2, p3, p4], _ => kernel_rfl
  | _ :: _ :: _ :: _ :: _ :: _ :: _, h => simp at h

theorem t7Val : evS gT lsc (ofL ((nFired, F) :: env2 dd W D bnd rich R B)) (valE (tb 7)) = sentP [R, F, .atom (.int (dd.fdiv 32))] := by kernel_rfl

theorem t8Val {c : List Row} {bs : List Bool} (h5 : c.length ≤ 5) (hl : c.length = bs.length) : evS gT lsc (ofL ((nRows, P) :: (nFired, boolsPV bs) :: env2 dd W D bnd rich R (bookPV c))) (valE (tb 8)) = some (bookPV (nxt (c.zip bs))) := by
  match c, bs, h5, hl with
  | [], [], _, _ => kernel_rfl
  | [c0], [p0], _, _ => cases p0 <;> kernel_rfl
  | [c0, c1], [p0, p1], _, _ => cases p0 <;> cases p1 <;> kernel_rfl
  | [c0, c1, c2], [p0, p1, p2], _, _ => cases p0 <;> cases p1 <;> cases p2 <;> kernel_rfl
  | [c0, c1, c2, c3], [p0, p1, p2, p3], _, _ => cases p0 <;> cases p1 <;> cases p2 <;> cases p3 <;> kernel_rfl
  | [c0, c1, c2, c3, c4], [p0, p1, p2, p3, p4], _, _ => cases p0 <;> cases p1 <;> cases p2 <;> cases p3 <;> cases p4 <;> kernel_rfl
  | _ :: _ :: _ :: _ :: _ :: _ :: _, _, h, _ => simp at h

noncomputable def t9 : Expr := valE (tb 9)
noncomputable def t9C : Expr := kid 0 (kid 0 (kid 0 t9))
theorem t9Elt (ρ : Vars) (x : Str) : (([0, 1, 2, 3] : List Int).all fun f => eltF (evP gT 36 none) (tsP gT 36 none) (scOf t9C) γ0 ρ (kid 2 t9C) (kid 0 t9C) (ifsOf t9C) (.tup [.int f, .str x]) == some (some (.atom (.int (wt f))))) = true := by kernel_rfl
theorem four_mem {c : List Row} (h : ∀ r ∈ c, r ∈ tab0) : ∀ r ∈ c, r.1 ∈ ([0, 1, 2, 3] : List Int) := fun r hr => by rcases tab0_far r (h r hr) with e | e | e | e <;> rw [e] <;> decide

theorem sum_wts (c : List Row) : sumP (.list (c.map fun r => .int (wt r.1))) = some (.atom (.int (Wf (fars c)))) := by
  unfold sumP
  dsimp only
  have : (c.map fun r => AV.int (wt r.1)) = ((fars c).map wt).map .int := by unfold fars; rw [List.map_map, List.map_map]; rfl
  rw [this, intsP_map]
  rfl

theorem t9Val {c : List Row} (h : FinC c) : tsS gT lsc (ofL (env0 D bnd rich R (bookPV c))) t9 = some (decide (16 ≤ Wf (fars c)) != rich) := by
  refine (tsP_cmp (n := 39) (op := .NotEq) (a := .atom (.bool (decide (16 ≤ Wf (fars c))))) (b := .atom (.bool rich)) (by kernel_rfl) ?_ (by kernel_rfl)).trans ?_
  · refine (evP_cmp (n := 38) (op := .GtE) (a := .atom (.int (Wf (fars c)))) (b := .atom (.int 16)) (by kernel_rfl) ?_ (by kernel_rfl)).trans rfl
    refine (evP_call1 (n := 36) (x := Str.ofString "sum") (v := .builtin "sum") (a := .list (c.map fun r => .int (wt r.1))) (by kernel_rfl) (by kernel_rfl) (by kernel_rfl) (by kernel_rfl) ?_).trans ?_
    · refine comp_tups (n := 36) (e := t9C) (c := c) (h := fun r => .int (wt r.1)) (by kernel_rfl) (by kernel_rfl) (by kernel_rfl) (by have := h.len; omega) (by kernel_rfl) fun r hr => ?_
      have := t9Elt (vis lsc gT.γ (ofL (env0 D bnd rich R (bookPV c)))) r.2
      rw [List.all_eq_true] at this
      exact beq_iff_eq.mp (this r.1 (four_mem h.mem r hr))
    · rw [appT_sum, sum_wts]
  · cases decide (16 ≤ Wf (fars c)) <;> cases rich <;> kernel_rfl

noncomputable def t10 : Expr := valE (tb 10)
noncomputable def t10C : Expr := kid 1 t10
theorem t10Elt (ρ : Vars) (f : Int) (x : Str) : eltF (evP gT 38 none) (tsP gT 38 none) (scOf t10C) γ0 ρ (kid 2 t10C) (kid 0 t10C) (ifsOf t10C) (.tup [.int f, .str x]) = some (some (.atom (.int f))) := by kernel_rfl
theorem t10Val {c : List Row} (h : FinC c) : tsS gT lsc (ofL (env0 D bnd rich R (bookPV c))) t10 = some ((fars c).any (· == 0)) := by
  refine (tsP_cmp (n := 39) (op := .In) (a := .atom (.int 0)) (b := .list ((fars c).map .int)) (by kernel_rfl) (by kernel_rfl) ?_).trans (in_ints _)
  refine (comp_tups (n := 38) (e := t10C) (c := c) (h := fun r => .int r.1) (by kernel_rfl) (by kernel_rfl) (by kernel_rfl) (by have := h.len; omega) (by kernel_rfl) fun r _ => t10Elt _ r.1 r.2).trans ?_
  unfold fars
  rw [List.map_map]
  rfl

/-! the end -/
noncomputable def nWon : Str := Str.ofString "won"
noncomputable def wonE : Expr := valE (stAt fLaw 11)
noncomputable def wonC : Expr := kid 1 wonE
theorem wonElt (ρ : Vars) (f : Int) (x : Str) : eltF (evP gT 38 none) (tsP gT 38 none) (scOf wonC) γ0 ρ (kid 2 wonC) (kid 0 wonC) (ifsOf wonC) (.tup [.int f, .str x]) = some (some (.atom (.int f))) := by kernel_rfl
theorem s11Val {c : List Row} (h : FinC c) : evS gT lsc (ofL (env0 D bnd rich R (bookPV c))) wonE = some (.atom (.bool ((fars c).any (· == 0)))) := by
  refine (evP_cmp (n := 39) (op := .In) (a := .atom (.int 0)) (b := .list ((fars c).map .int)) (by kernel_rfl) (by kernel_rfl) ?_).trans ?_
  · refine (comp_tups (n := 38) (e := wonC) (c := c) (h := fun r => .int r.1) (by kernel_rfl) (by kernel_rfl) (by kernel_rfl) (by have := h.len; omega) (by kernel_rfl) fun r _ => wonElt _ r.1 r.2).trans ?_
    unfold fars
    rw [List.map_map]
    rfl
  · have e : cmpP .In (.atom (.int 0)) (.list ((fars c).map .int)) = some ((fars c).any (· == 0)) := in_ints _
    rw [e]
    rfl
theorem s12Rich : tsS gT lsc (ofL ((nWon, .atom (.bool true)) :: env0 D bnd true R B)) (valE (stAt fLaw 12)) = some false := by kernel_rfl
theorem s12Poor : tsS gT lsc (ofL ((nWon, .atom (.bool false)) :: env0 D bnd false R (bookPV []))) (valE (stAt fLaw 12)) = some false := by kernel_rfl

theorem sortedK_rows {c : List Row} (h : FinC c) : sortedKP (rowsPV c) = some (rowsPV c) := by
  unfold sortedKP rowsPV
  dsimp only
  rw [strsP_map]
  show (if (c.map wr).length ≤ 5 then some (PV.list ((sortStrs (c.map wr)).map .str)) else none) = _
  rw [if_pos (by have := h.len; simpa using this), sortStrs_id h.len h.ord]
theorem sorted_book {c : List Row} (h : FinC c) : sortedP (bookPV c) = some (bookPV c) := by
  unfold sortedP bookPV
  dsimp only
  rw [rowsP_map]
  show (if c.length ≤ 5 then some (PV.tups ((sortRows c).map rowAV)) else none) = _
  rw [if_pos h.len, sortRows_id h.len h.ord]

noncomputable def s13 : Expr := valE (stAt fLaw 13)
theorem s13K : evP gT 39 (some lsc) (vis lsc gT.γ (ofL ((nWon, A) :: env0 D bnd rich R B))) (kid 0 s13) = sortedKP R := by kernel_rfl
theorem s13Val {c : List Row} (h : FinC c) : evS gT lsc (ofL ((nWon, A) :: env0 D bnd rich (rowsPV c) (bookPV c))) s13 = some (.atom (.bool true)) := by
  refine (evP_cmp (n := 39) (op := .Eq) (a := rowsPV c) (b := rowsPV c) (by kernel_rfl) ?_ ?_).trans ?_
  · exact s13K.trans (sortedK_rows h)
  · refine (evP_call1 (n := 37) (x := Str.ofString "_law_written") (v := vWrit) (a := bookPV c) (by kernel_rfl) (by kernel_rfl) (by kernel_rfl) (by kernel_rfl) (by kernel_rfl)).trans ?_
    rw [appT_writ, writVal h]
  · have e : cmpP .Eq (rowsPV c) (rowsPV c) = some true := by
      show eqD (rowsPV c) (rowsPV c) = _
      unfold rowsPV
      exact eq_strs fun x hx => by
        obtain ⟨r, hr, rfl⟩ := List.mem_map.mp hx
        exact ok_rows r (h.mem r hr)
    rw [e]
    rfl
end
end Mine

end

section -- Law4
open PySem PySem.W PyProof.Rows
set_option maxRecDepth 100000
namespace Mine

noncomputable def nScript : Str := Str.ofString "script"
noncomputable def nOwn : Str := Str.ofString "own"
noncomputable def nNames : Str := Str.ofString "names"
noncomputable def nFars : Str := Str.ofString "fars"
noncomputable def ownPV : PV := .list [.int 3, .int 2, .int 0, .int 2, .int 1, .int 40, .int 3]
noncomputable def intsPV (ns : List Int) : PV := .list (ns.map .int)
noncomputable def namesPV : PV := .list [.str (Str.ofString "a"), .str (Str.ofString "euro"), .str (Str.ofString "b"), .str (Str.ofString "c")]

section
variable {D : PV} {bnd : Int} {rich : Bool} {R B W A F P : PV}

theorem s0Val : evS gT lsc (ofL [(nScript, P)]) (valE (stAt fLaw 0)) = some ownPV := by kernel_rfl

noncomputable def s1 : Expr := valE (stAt fLaw 1)
theorem s1Elt (ρ : Vars) (x : Int) : eltF (evP gT 39 none) (tsP gT 39 none) (scOf s1) γ0 ρ (kid 2 s1) (kid 0 s1) (ifsOf s1) (.atom (.int x)) = some (some (.atom (.int (x.fmod 1000)))) := by kernel_rfl
noncomputable def hD : AV → AV
  | .int x => .int (x.fmod 1000)
  | a => a
theorem s1Val {ns : List Int} (hz : ns.length ≤ 1000) : evS gT lsc (ofL [(nOwn, ownPV), (nScript, intsPV ns)]) s1 = some (intsPV ((ns.take 7).map fun x => x.fmod 1000)) := by
  refine (comp_list (n := 39) (l := (ns.take 7).map .int) (h := hD) (by kernel_rfl) (by kernel_rfl) ?_ (by simp; omega) (by kernel_rfl) ?_).trans ?_
  · refine (evP_to (n := 38) (a := intsPV ns) (b := .int 7) (by kernel_rfl) (by kernel_rfl) (by kernel_rfl)).trans ?_
    unfold sliceP intsPV
    dsimp only
    rw [if_pos ⟨by omega, by simp; omega⟩, ← List.map_take]
    rfl
  · intro a ha
    obtain ⟨x, hx, rfl⟩ := List.mem_map.mp ha
    exact s1Elt _ x
  · unfold intsPV
    rw [List.map_map, List.map_map]
    rfl

theorem s2Val {ds : List Int} (h : ds.length ≤ 7) : ∃ d0 d1 d2 d3 d4 d5 d6, evS gT lsc (ofL [(nDraws, intsPV ds), (nOwn, ownPV), (nScript, P)]) (valE (stAt fLaw 2)) = some (D7 d0 d1 d2 d3 d4 d5 d6) := by
  match ds, h with
  | [], _ => exact ⟨3, 2, 0, 2, 1, 40, 3, by kernel_rfl⟩
  | [a], _ => exact ⟨a, 2, 0, 2, 1, 40, 3, by kernel_rfl⟩
  | [a, b], _ => exact ⟨a, b, 0, 2, 1, 40, 3, by kernel_rfl⟩
  | [a, b, c], _ => exact ⟨a, b, c, 2, 1, 40, 3, by kernel_rfl⟩
  | [a, b, c, d], _ => exact ⟨a, b, c, d, 1, 40, 3, by kernel_rfl⟩
  | [a, b, c, d, e], _ => exact ⟨a, b, c, d, e, 40, 3, by kernel_rfl⟩
  | [a, b, c, d, e, f], _ => exact ⟨a, b, c, d, e, f, 3, by kernel_rfl⟩
  | [a, b, c, d, e, f, g], _ => exact ⟨a, b, c, d, e, f, g, by kernel_rfl⟩
  | _ :: _ :: _ :: _ :: _ :: _ :: _ :: _ :: _, h => simp at h

variable {d0 d1 d2 d3 d4 d5 d6 : Int}
theorem s3Val : evS gT lsc (ofL [(nDraws, D7 d0 d1 d2 d3 d4 d5 d6)]) (valE (stAt fLaw 3)) = some (.atom (.int (d6.fmod 9 - 1))) := by kernel_rfl
theorem s4Val : evS gT lsc (ofL [(nBound, P), (nDraws, D7 d0 d1 d2 d3 d4 d5 d6)]) (valE (stAt fLaw 4)) = some namesPV := by kernel_rfl

noncomputable def s5 : Expr := valE (stAt fLaw 5)
noncomputable def farOf (n : Int) : Int := if n.fmod 4 = 2 then 2 else if n.fmod 4 = 3 then 1 else 3
theorem farOf_is (n : Int) : farOf n = 1 ∨ farOf n = 2 ∨ farOf n = 3 := by
  unfold farOf
  split
  · exact .inr (.inl rfl)
  · split
    · exact .inl rfl
    · exact .inr (.inr rfl)
theorem fmod4 (m : Int) : m.fmod 4 = 0 ∨ m.fmod 4 = 1 ∨ m.fmod 4 = 2 ∨ m.fmod 4 = 3 := by
  have h1 := Int.fmod_nonneg_of_pos m (by decide : (0 : Int) < 4)
  have h2 := Int.fmod_lt_of_pos m (by decide : (0 : Int) < 4)
  omega
theorem s5Elt (ρ : Vars) (x : Int) : eltF (evP gT 39 none) (tsP gT 39 none) (scOf s5) γ0 ρ (kid 2 s5) (kid 0 s5) (ifsOf s5) (.atom (.int x)) = some (some (.atom (.int (farOf x)))) := by
  have hi : ifsOf s5 = [] := by kernel_rfl
  rw [hi]
  refine eltF_atom (bs := [(Str.ofString "n", .atom (.int x))]) (by kernel_rfl) (by kernel_rfl) (by kernel_rfl) ?_
  refine (evP_item (n := 38) (a := .list [.int 3, .int 3, .int 2, .int 1]) (b := .atom (.int (x.fmod 4))) (by kernel_rfl) (by kernel_rfl) (by kernel_rfl)).trans ?_
  unfold farOf
  rcases fmod4 x with h | h | h | h <;> rw [h] <;> rfl
noncomputable def hF : AV → AV
  | .int x => .int (farOf x)
  | a => a
theorem s5Val : evS gT lsc (ofL [(nNames, namesPV), (nBound, P), (nDraws, D7 d0 d1 d2 d3 d4 d5 d6)]) s5 = some (intsPV [farOf d0, farOf d1, farOf d2, farOf d3]) := by
  refine (comp_list (n := 39) (l := [.int d0, .int d1, .int d2, .int d3]) (h := hF) (by kernel_rfl) (by kernel_rfl) (by kernel_rfl) (by simp) (by kernel_rfl) ?_).trans rfl
  intro a ha
  have : ∃ x, a = .int x := by
    simp only [List.mem_cons, List.not_mem_nil, or_false] at ha
    rcases ha with rfl | rfl | rfl | rfl <;> exact ⟨_, rfl⟩
  obtain ⟨x, rfl⟩ := this
  exact s5Elt _ x

noncomputable def tA : Str := Str.ofString "@a"
noncomputable def tE : Str := Str.ofString "@euro"
noncomputable def tB : Str := Str.ofString "@b"
noncomputable def tC : Str := Str.ofString "@c"
noncomputable def tI : Str := Str.ofString "ISO8859-15"
noncomputable def envF (f0 f1 f2 f3 : Int) (P D : PV) : List (Str × PV) := [(nFars, intsPV [f0, f1, f2, f3]), (nNames, namesPV), (nBound, P), (nDraws, D)]
noncomputable def s6 : Expr := valE (stAt fLaw 6)
noncomputable def eltS6 (f0 f1 f2 f3 : Int) (P D : PV) (i : Int) : Option (Option PV) := eltF (evP gT 39 none) (tsP gT 39 none) (scOf s6) gT.γ (vis lsc gT.γ (ofL (envF f0 f1 f2 f3 P D))) (kid 2 s6) (kid 0 s6) (ifsOf s6) (.atom (.int i))
variable {f0 f1 f2 f3 : Int}
theorem e0 : (([1, 2, 3] : List Int).all fun f => eltS6 f f1 f2 f3 P D 0 == some (some (.atom (.str (wr (f, tA)))))) = true := by kernel_rfl
theorem e1 : (([1, 2, 3] : List Int).all fun f => eltS6 f0 f f2 f3 P D 1 == some (some (.atom (.str (wr (f, tE)))))) = true := by kernel_rfl
theorem e2 : (([1, 2, 3] : List Int).all fun f => eltS6 f0 f1 f f3 P D 2 == some (some (.atom (.str (wr (f, tB)))))) = true := by kernel_rfl
theorem e3 : (([1, 2, 3] : List Int).all fun f => eltS6 f0 f1 f2 f P D 3 == some (some (.atom (.str (wr (f, tC)))))) = true := by kernel_rfl
theorem mem3 {f : Int} (h : f = 1 ∨ f = 2 ∨ f = 3) : f ∈ ([1, 2, 3] : List Int) := by rcases h with rfl | rfl | rfl <;> decide
noncomputable def rows4 (f0 f1 f2 f3 : Int) : List Row := [(f0, tA), (f1, tE), (f2, tB), (f3, tC)]
noncomputable def book0 (f0 f1 f2 f3 : Int) : List Row := rows4 f0 f1 f2 f3 ++ [(3, tI)]

theorem s6Val (h0 : f0 = 1 ∨ f0 = 2 ∨ f0 = 3) (h1 : f1 = 1 ∨ f1 = 2 ∨ f1 = 3) (h2 : f2 = 1 ∨ f2 = 2 ∨ f2 = 3) (h3 : f3 = 1 ∨ f3 = 2 ∨ f3 = 3) :
    evS gT lsc (ofL (envF f0 f1 f2 f3 P D)) s6 = some (.list (((rows4 f0 f1 f2 f3).map wr).map .str)) := by
  have q0 := beq_iff_eq.mp (List.all_eq_true.mp (e0 (P := P) (D := D) (f1 := f1) (f2 := f2) (f3 := f3)) f0 (mem3 h0))
  have q1 := beq_iff_eq.mp (List.all_eq_true.mp (e1 (P := P) (D := D) (f0 := f0) (f2 := f2) (f3 := f3)) f1 (mem3 h1))
  have q2 := beq_iff_eq.mp (List.all_eq_true.mp (e2 (P := P) (D := D) (f1 := f1) (f0 := f0) (f3 := f3)) f2 (mem3 h2))
  have q3 := beq_iff_eq.mp (List.all_eq_true.mp (e3 (P := P) (D := D) (f1 := f1) (f2 := f2) (f0 := f0)) f3 (mem3 h3))
  unfold eltS6 at q0 q1 q2 q3
  refine evP_comp' (n := 39) (src := .range 4) (items := [.atom (.int 0), .atom (.int 1), .atom (.int 2), .atom (.int 3)]) (out := [.atom (.str (wr (f0, tA))), .atom (.str (wr (f1, tE))), .atom (.str (wr (f2, tB))), .atom (.str (wr (f3, tC)))]) (by kernel_rfl) (by kernel_rfl) (by kernel_rfl) (by kernel_rfl) ?_ (by kernel_rfl)
  simp only [compP, q0, q1, q2, q3]

noncomputable def s7 : Expr := kid 0 (valE (stAt fLaw 7))
theorem s7Val : evS gT lsc (ofL ((nRows, R) :: envF f0 f1 f2 f3 P D)) s7 = some (.atom (.str (wr (3, tI)))) := by kernel_rfl

theorem s8Val : evS gT lsc (ofL ((nRows, R) :: envF f0 f1 f2 f3 P D)) (valE (stAt fLaw 8)) = some (bookPV (book0 f0 f1 f2 f3)) := by kernel_rfl

noncomputable def s9 : Expr := valE (stAt fLaw 9)
noncomputable def s9C : Expr := kid 0 (kid 0 s9)
theorem s9Elt (ρ : Vars) (x : Str) : (([0, 1, 2, 3] : List Int).all fun f => eltF (evP gT 37 none) (tsP gT 37 none) (scOf s9C) γ0 ρ (kid 2 s9C) (kid 0 s9C) (ifsOf s9C) (.tup [.int f, .str x]) == some (some (.atom (.int (wt f))))) = true := by kernel_rfl
theorem s9Val {c : List Row} (hm : ∀ r ∈ c, r ∈ tab0) (hz : c.length ≤ 5) : evS gT lsc (ofL [(nBook, bookPV c), (nRows, R), (nBound, P), (nDraws, D)]) s9 = some (.atom (.bool (decide (16 ≤ Wf (fars c))))) := by
  refine (evP_cmp (n := 39) (op := .GtE) (a := .atom (.int (Wf (fars c)))) (b := .atom (.int 16)) (by kernel_rfl) ?_ (by kernel_rfl)).trans rfl
  refine (evP_call1 (n := 37) (x := Str.ofString "sum") (v := .builtin "sum") (a := .list (c.map fun r => .int (wt r.1))) (by kernel_rfl) (by kernel_rfl) (by kernel_rfl) (by kernel_rfl) ?_).trans ?_
  · refine comp_tups (n := 37) (e := s9C) (c := c) (h := fun r => .int (wt r.1)) (by kernel_rfl) (by kernel_rfl) (by kernel_rfl) (by omega) (by kernel_rfl) fun r hr => ?_
    have := s9Elt (vis lsc gT.γ (ofL [(nBook, bookPV c), (nRows, R), (nBound, P), (nDraws, D)])) r.2
    rw [List.all_eq_true] at this
    exact beq_iff_eq.mp (this r.1 (four_mem hm r hr))
  · rw [appT_sum, sum_wts]

theorem s10Val : evS gT lsc (ofL (env0 D bnd rich R B)) (valE (stAt fLaw 10)) = some (.range 3) := by kernel_rfl

/-- the start: the sorted book is as it should be -/
noncomputable def bk (f : Int × Int × Int × Int) : List Row := book0 f.1 f.2.1 f.2.2.1 f.2.2.2
noncomputable def startB (b : List Row) : Bool := decide (sortStrs (b.map wr) = (sortRows b).map wr) && decide ((sortRows b).length = 5) && (sortRows b).all (fun r => tab.contains r) && decide ((sortRows b).Pairwise fun a b => bef a b = true) && decide (Wf (fars (sortRows b)) = Wf (fars b)) && b.all (fun r => tab0.contains r)
theorem starts : ∀ f0 ∈ ([1, 2, 3] : List Int), ∀ f1 ∈ ([1, 2, 3] : List Int), ∀ f2 ∈ ([1, 2, 3] : List Int), ∀ f3 ∈ ([1, 2, 3] : List Int), startB (book0 f0 f1 f2 f3) = true := by decide +kernel
end
end Mine

end

section -- Law5
open PySem PySem.W PyProof.Rows
set_option maxRecDepth 100000
namespace Mine

section
variable {prog : Program} {w : World} {k : Nat} {s₀ : Shared} {g : Lang} {h₁ : Heap} {d : FD}

theorem Runs.brk {st : Stmt} {ρ : Vars} {P : Post} (hst : st = .Break (posSt st)) (h : P .brk ρ) : Runs prog w k d s₀ ρ [st] P := by
  generalize posSt st = sp at hst
  subst hst
  intro A h' tk Q E ok F hQ
  refine wpAny_execs_cons (wpAny_Break ?_)
  exact hQ .brk h' tk .brk ρ rfl F (Keep.refl _ _) h

theorem Runs.ifNo (H : Host prog w g h₁ k d s₀) {st : Stmt} {t : Expr} {b : List Stmt} {rest : List Stmt} {ρ : Vars} {P : Post} (hst : st = .If t b [] (posSt st)) (hc : tsS g d.sc ρ t = some false) (h : Runs prog w k d s₀ ρ rest P) : Runs prog w k d s₀ ρ (st :: rest) P :=
  Runs.cons (P1 := fun f ρ' => f = .next ∧ ρ' = ρ) (Runs.ifS H hst hc (Runs.nil ⟨rfl, rfl⟩)) (fun ρ' h' => by obtain ⟨_, rfl⟩ := h'; exact h) (fun _ h => by cases h.1) (fun _ _ h => by cases h.1)

theorem Runs.whileL (H : Host prog w g h₁ k d s₀) {st : Stmt} {t : Expr} {b : List Stmt} {m : Nat} {P : Post} (L : Nat → Vars) (hst : st = .While t b [] (posSt st))
    (step : ∀ i, i < m → tsS g d.sc (L i) t = some true ∧ Runs prog w k d s₀ (L i) b (fun f ρ' => f = .next ∧ Sub (L (i + 1)) ρ')) (hend : tsS g d.sc (L m) t = some false ∧ P .next (L m)) : Runs prog w k d s₀ (L 0) [st] P := by
  generalize posSt st = sp at hst
  subst hst
  intro A h tk Q E ok F hQ
  refine wpAny_execs_cons ?_
  refine wpAny_While ?_
  refine codeAny_whileLoop (fun j s' => ∃ (i : Nat) (h' : Heap) (tk' : Nat), i ≤ m ∧ j = m - i ∧ s' = { s₀ with heap := h', toks := tk' } ∧ FrameOk d s₀.heap h' (L i) ∧ Keep d h h') ?_ m ⟨0, h, tk, Nat.zero_le _, rfl, rfl, F, Keep.refl _ _⟩
  rintro j s' ⟨i, h', tk', hi, rfl, rfl, F', K'⟩
  by_cases hlt : i < m
  · obtain ⟨ht, hb⟩ := step i hlt
    refine tsS_ok H ok F' ht fun h2 tk2 hx2 => ?_
    simp only [if_true]
    refine hb A h2 tk2 _ _ ok (F'.keep hx2) fun f h3 tk3 fp ρ3 hf F3 K3 hp => ?_
    obtain ⟨rfl, hI3⟩ := hp
    cases hf
    exact ⟨m - (i + 1), by omega, i + 1, h3, tk3, hlt, rfl, rfl, F3.weaken hI3, K'.trans (hx2.kp.trans K3)⟩
  · have : i = m := by omega
    subst this
    obtain ⟨ht, hp⟩ := hend
    refine tsS_ok H ok F' ht fun h2 tk2 hx2 => ?_
    simp only [Bool.false_eq_true, if_false]
    exact wpAny_execs_nil (wpAny_execs_nil (hQ .next h2 tk2 .next _ rfl (F'.keep hx2) (K'.trans hx2.kp) hp))
end

/-! the prefix that weighs eight -/
theorem pf_spec : ∀ (fl : List Int) (k : Nat) (a : Int), k ≤ pf k a fl ∧ ∀ i, k + i < pf k a fl → a + Wf (fl.take i) < 8
  | [], k, a => ⟨Nat.le_refl _, fun i h => by unfold pf at h; omega⟩
  | f :: r, k, a => by
    unfold pf
    split
    · rename_i ha
      obtain ⟨h1, h2⟩ := pf_spec r (k + 1) (a + wt f)
      refine ⟨by omega, fun i hi => ?_⟩
      cases i with
      | zero => simpa [Wf] using ha
      | succ i =>
        have := h2 i (by omega)
        rw [List.take_succ_cons]
        unfold Wf at this ⊢
        rw [List.map_cons, List.sum_cons]
        omega
    · exact ⟨Nat.le_refl _, fun i h => by omega⟩

section
variable {prog : Program} {w : World} {k : Nat} {s₀ : Shared} {h₁ : Heap} {d : FD}
variable {D : PV} {bnd dd : Int} {B : PV}

noncomputable def Fired (c : List Row) (rich : Bool) (bs : List Bool) : Prop := c.length = bs.length ∧ decide (16 ≤ Wf (nxtF ((fars c).zip bs))) = rich

theorem fars_len (c : List Row) : (fars c).length = c.length := by unfold fars; simp

theorem rich_runs (H : Host prog w gT h₁ k d s₀) (hd : d.sc = lsc) {t : Nat} {c : List Row} (g : GoodC t c) (hr : 16 ≤ Wf (fars c)) :
    Runs prog w k d s₀ (ofL (env2 dd (weightsPV c) D bnd true (rowsPV c) B)) (bodyOf (tb 6)) (fun f ρ' => f = .next ∧ ∃ bs, Fired c true bs ∧ Sub (ofL ((nFired, boolsPV bs) :: env2 dd (weightsPV c) D bnd true (rowsPV c) B)) ρ') := by
  have hok := okTurns c.length g.len (fars c) (fars_allS g)
  unfold okTurn at hok
  rw [if_pos hr] at hok
  simp only [Bool.and_eq_true, List.all_eq_true, decide_eq_true_eq] at hok
  obtain ⟨⟨hok1, hok2⟩, hok3⟩ := hok
  have hpf := (pf_spec (fars c) 0 0).2
  generalize hk : pf 0 0 (fars c) = m at hok2 hok3 hpf
  have hz : c.length ≤ 1000 := by have := g.len; omega
  have hb : bodyOf (tb 6) = [rb 0, rb 1, rb 2, rb 3] := by kernel_rfl
  rw [hb]
  refine Runs.assign H (x := nFirst) (e := valE (rb 0)) (p := .atom (.int 0)) (by kernel_rfl) (by rw [hd]; exact r0Val) rfl (by rw [hd]; kernel_rfl) ?_
  refine Runs.cons (P1 := fun f ρ' => f = .next ∧ ρ' = ofL ((nFirst, .atom (.int (m : Int))) :: env2 dd (weightsPV c) D bnd true (rowsPV c) B)) ?_ (fun ρ' h' => ?_) (fun _ h => by cases h.1) (fun _ _ h => by cases h.1)
  · refine Runs.whileL H (m := m) (fun i => ofL ((nFirst, .atom (.int (i : Int))) :: env2 dd (weightsPV c) D bnd true (rowsPV c) B)) (t := whE) (b := whB) (by kernel_rfl) (fun i hi => ⟨?_, ?_⟩) ⟨?_, rfl, rfl⟩
    · rw [hd]
      refine (r1Val hz).trans ?_
      have := hpf i (by omega)
      rw [decide_eq_true (by omega)]
    · have hwb : whB = [stIn whB 0] := by kernel_rfl
      rw [hwb]
      refine Runs.assign H (x := nFirst) (e := valE (stIn whB 0)) (p := .atom (.int ((i : Int) + 1))) (by kernel_rfl) (by rw [hd]; exact r1Step) rfl (by rw [hd]; kernel_rfl) ?_
      refine Runs.nil ⟨rfl, ?_⟩
      exact sub_map (by kernel_rfl)
    · rw [hd]
      refine (r1Val hz).trans ?_
      rw [hok3]
      rfl
  · obtain ⟨_, rfl⟩ := h'
    refine Runs.ifNo H (t := valE (rb 2)) (b := bodyOf (rb 2)) (by kernel_rfl) (by rw [hd]; exact r2Val hz hok3) ?_
    refine Runs.assign H (x := nFired) (e := valE (rb 3)) (by kernel_rfl) (by rw [hd]; exact r3Val g.len) rfl (by rw [hd]; kernel_rfl) ?_
    refine Runs.nil ⟨rfl, firedR (fars c) (bitR dd), ⟨?_, ?_⟩, ?_⟩
    · unfold firedR
      rw [List.length_map, List.length_range, fars_len]
    · exact decide_eq_true (hok1 (bitR dd) (by cases bitR dd <;> simp))
    · have e : ((List.range c.length).map fun (i : Nat) => (decide ((i : Int) < (m : Int))) == bitR dd) = firedR (fars c) (bitR dd) := by
        unfold firedR
        rw [fars_len, hk]
        refine List.map_congr_left fun i _ => ?_
        have : decide ((i : Int) < (m : Int)) = decide (i < m) := by simp
        rw [this]
      rw [e]
      exact sub_map (by kernel_rfl)

theorem poor_runs (H : Host prog w gT h₁ k d s₀) (hd : d.sc = lsc) {t : Nat} {c : List Row} (g : GoodC t c) (hr : ¬ 16 ≤ Wf (fars c)) :
    Runs prog w k d s₀ (ofL (env2 dd (weightsPV c) D bnd false (rowsPV c) B)) (elseOf (tb 6)) (fun f ρ' => f = .next ∧ ∃ bs, Fired c false bs ∧ Sub (ofL ((nFired, boolsPV bs) :: env2 dd (weightsPV c) D bnd false (rowsPV c) B)) ρ') := by
  have hok := okTurns c.length g.len (fars c) (fars_allS g)
  unfold okTurn at hok
  rw [if_neg hr] at hok
  simp only [List.all_eq_true, decide_eq_true_eq] at hok
  have hb : elseOf (tb 6) = [pb 0, pb 1, pb 2, pb 3] := by kernel_rfl
  have hl : c.length = ((List.range c.length).map (bitP dd)).length := by simp
  have hm : (List.range c.length).map (bitP dd) ∈ allB (fars c).length := by
    rw [fars_len]
    have := mem_allB ((List.range c.length).map (bitP dd))
    rwa [← hl] at this
  have hok := hok _ hm
  have hp0 := p0Val (dd := dd) (W := weightsPV c) (D := D) (bnd := bnd) (rich := false) (B := B) (c := c) g.len
  generalize (List.range c.length).map (bitP dd) = ps at hl hok hp0
  have hps : ps.length ≤ 5 := by have := g.len; omega
  rw [hb]
  refine Runs.assign H (x := nParted) (e := valE (pb 0)) (p := boolsPV ps) (by kernel_rfl) (by rw [hd]; exact hp0) rfl (by rw [hd]; kernel_rfl) ?_
  refine Runs.assign H (x := nOne) (e := valE (pb 1)) (by kernel_rfl) (by rw [hd]; exact p1Val g.len hl) rfl (by rw [hd]; kernel_rfl) ?_
  refine Runs.assign H (x := nHeavier) (e := valE (pb 2)) (by kernel_rfl) (by rw [hd]; exact p2Val g.len) rfl (by rw [hd]; kernel_rfl) ?_
  refine Runs.assign H (x := nFired) (e := valE (pb 3)) (by kernel_rfl) (by rw [hd]; exact p3Val hps) rfl (by rw [hd]; kernel_rfl) ?_
  refine Runs.nil ⟨rfl, firedP (fars c) ps, ⟨?_, ?_⟩, ?_⟩
  · unfold firedP
    rw [List.length_map, hl]
  · exact decide_eq_false (by omega)
  · exact sub_map (by kernel_rfl)

theorem turn_runs (H : Host prog w gT h₁ k d s₀) (hd : d.sc = lsc) {t : Nat} (ht : t < 3) {b c : List Row} (hb5 : b.length ≤ 5) (hsb : sortRows b = c) (hss : sortStrs (b.map wr) = c.map wr) (g : GoodC t c) {rich : Bool} (hr : decide (16 ≤ Wf (fars c)) = rich) {d0 d1 d2 d3 d4 d5 d6 : Int} :
    Runs prog w k d s₀ (ofL (env1 t (D7 d0 d1 d2 d3 d4 d5 d6) bnd rich (rowsPV b) (bookPV b))) (bodyOf (stAt fLaw 10)) (fun f ρ' =>
      (f = .next ∧ ∃ c', GoodC (t + 1) c' ∧ decide (16 ≤ Wf (fars c')) = rich ∧ Sub (ofL (env0 (D7 d0 d1 d2 d3 d4 d5 d6) bnd rich (rowsPV c') (bookPV c'))) ρ') ∨
      (f = .brk ∧ ∃ c', FinC c' ∧ decide (16 ≤ Wf (fars c')) = rich ∧ (fars c').any (· == 0) = true ∧ Sub (ofL (env0 (D7 d0 d1 d2 d3 d4 d5 d6) bnd rich (rowsPV c') (bookPV c'))) ρ')) := by
  have hb : bodyOf (stAt fLaw 10) = [tb 0, tb 1, tb 2, tb 3, tb 4, tb 5, tb 6, tb 7, tb 8, tb 9, tb 10] := by kernel_rfl
  have gf := g.fin
  have hz : c.length ≤ 1000 := by have := g.len; omega
  generalize hD : D7 d0 d1 d2 d3 d4 d5 d6 = D
  rw [hb]
  have hbk : sortedP (bookPV b) = some (bookPV c) := by
    unfold sortedP bookPV
    dsimp only
    rw [rowsP_map]
    show (if b.length ≤ 5 then some (PV.tups ((sortRows b).map rowAV)) else none) = _
    rw [if_pos hb5, hsb]
  have hrw : sortedKP (rowsPV b) = some (rowsPV c) := by
    unfold sortedKP rowsPV
    dsimp only
    rw [strsP_map]
    show (if (b.map wr).length ≤ 5 then some (PV.list ((sortStrs (b.map wr)).map .str)) else none) = _
    rw [if_pos (by simpa using hb5), hss]
  refine Runs.assign H (x := nBook) (e := valE (tb 0)) (p := bookPV c) (by kernel_rfl) (by rw [hd]; exact t0Val.trans hbk) rfl (by rw [hd]; kernel_rfl) ?_
  refine Runs.assign H (x := nRows) (e := valE (tb 1)) (p := rowsPV c) (by kernel_rfl) (by rw [hd]; exact t1Val.trans hrw) rfl (by rw [hd]; kernel_rfl) ?_
  refine Runs.weaken (ρ₀ := ofL (env1 t D bnd rich (rowsPV c) (bookPV c))) (sub_map (by kernel_rfl)) ?_
  refine Runs.assign H (x := nAway) (e := valE (tb 2)) (by kernel_rfl) (by rw [hd]; exact t2Val g.mem hz) rfl (by rw [hd]; kernel_rfl) ?_
  refine Runs.ifNo H (t := t3) (b := bodyOf (tb 3)) (by kernel_rfl) (by rw [hd]; exact t3Val gf) ?_
  refine Runs.assign H (x := nWeights) (e := valE (tb 4)) (by kernel_rfl) (by rw [hd]; exact t4Val gf) rfl (by rw [hd]; kernel_rfl) ?_
  subst hD
  refine Runs.assign H (x := nDeed) (e := valE (tb 5)) (by kernel_rfl) (by rw [hd]; exact t5Val ht) rfl (by rw [hd]; kernel_rfl) ?_
  generalize dOf t d4 d5 d6 = dd
  generalize D7 d0 d1 d2 d3 d4 d5 d6 = D
  refine Runs.weaken (ρ₀ := ofL (env2 dd (weightsPV c) D bnd rich (rowsPV c) (bookPV c))) (sub_map (by kernel_rfl)) ?_
  refine Runs.cons (P1 := fun f ρ' => f = .next ∧ ∃ bs, Fired c rich bs ∧ Sub (ofL ((nFired, boolsPV bs) :: env2 dd (weightsPV c) D bnd rich (rowsPV c) (bookPV c))) ρ') ?_ (fun ρ' h' => ?_) (fun _ h => by cases h.1) (fun _ _ h => by cases h.1)
  · refine Runs.ifS H (t := valE (tb 6)) (b := bodyOf (tb 6)) (o := elseOf (tb 6)) (c := rich) (by kernel_rfl) (by rw [hd]; exact t6Val) ?_
    cases rich with
    | true => exact rich_runs H hd g (of_decide_eq_true hr)
    | false => exact poor_runs H hd g (of_decide_eq_false hr)
  obtain ⟨_, bs, ⟨hbl, hbW⟩, hsub⟩ := h'
  refine Runs.weaken hsub ?_
  obtain ⟨nf, ntop⟩ := nxt_fin g hbl
  rw [← fars_nxt] at hbW
  refine Runs.assign H (x := nRows) (e := valE (tb 7)) (p := rowsPV (nxt (c.zip bs))) (by kernel_rfl) (by
    rw [hd]
    refine t7Val.trans ((sentVal g.mem hbl (by have := g.len; omega)).trans ?_)
    rw [outS_nxt]
    rfl) rfl (by rw [hd]; kernel_rfl) ?_
  refine Runs.assign H (x := nBook) (e := valE (tb 8)) (by kernel_rfl) (by rw [hd]; exact t8Val g.len hbl) rfl (by rw [hd]; kernel_rfl) ?_
  refine Runs.weaken (ρ₀ := ofL (env0 D bnd rich (rowsPV (nxt (c.zip bs))) (bookPV (nxt (c.zip bs))))) (sub_map (by kernel_rfl)) ?_
  generalize nxt (c.zip bs) = c' at nf ntop hbW
  refine Runs.ifNo H (t := t9) (b := bodyOf (tb 9)) (by kernel_rfl) (by rw [hd]; refine (t9Val nf).trans ?_; rw [hbW]; cases rich <;> rfl) ?_
  refine Runs.ifS H (t := t10) (b := bodyOf (tb 10)) (o := []) (c := (fars c').any (· == 0)) (by kernel_rfl) (by rw [hd]; exact t10Val nf) ?_
  cases ha : (fars c').any (· == 0) with
  | true =>
    have hbb : bodyOf (tb 10) = [stIn (bodyOf (tb 10)) 0] := by kernel_rfl
    rw [if_pos rfl, hbb]
    exact Runs.brk (by kernel_rfl) (.inr ⟨rfl, c', nf, hbW, ha, Sub.refl _⟩)
  | false =>
    rw [if_neg (by decide)]
    refine Runs.nil (.inl ⟨rfl, c', ⟨nf.len, fun r hr => ?_, fun r hr => ?_, nf.ord⟩, hbW, Sub.refl _⟩)
    · refine tab_iff r (nf.mem r hr) fun e => ?_
      rw [List.any_eq_false] at ha
      exact ha r.1 (List.mem_map_of_mem hr) (by rw [e]; rfl)
    · have := ntop r hr
      push_cast
      omega
end
end Mine

end

section -- Law6
open PySem PySem.W PyProof.Rows
set_option maxRecDepth 100000
namespace Mine

theorem start_ok {f0 f1 f2 f3 : Int} (h0 : f0 = 1 ∨ f0 = 2 ∨ f0 = 3) (h1 : f1 = 1 ∨ f1 = 2 ∨ f1 = 3) (h2 : f2 = 1 ∨ f2 = 2 ∨ f2 = 3) (h3 : f3 = 1 ∨ f3 = 2 ∨ f3 = 3) :
    sortStrs ((book0 f0 f1 f2 f3).map wr) = (sortRows (book0 f0 f1 f2 f3)).map wr ∧ GoodC 0 (sortRows (book0 f0 f1 f2 f3)) ∧ Wf (fars (sortRows (book0 f0 f1 f2 f3))) = Wf (fars (book0 f0 f1 f2 f3)) ∧ ∀ r ∈ book0 f0 f1 f2 f3, r ∈ tab0 := by
  have h := starts f0 (mem3 h0) f1 (mem3 h1) f2 (mem3 h2) f3 (mem3 h3)
  unfold startB at h
  simp only [Bool.and_eq_true, List.all_eq_true, decide_eq_true_eq, List.contains_iff_mem] at h
  obtain ⟨⟨⟨⟨⟨a1, a2⟩, a3⟩, a4⟩, a5⟩, a6⟩ := h
  refine ⟨a1, ⟨by omega, a3, fun r hr => ?_, a4⟩, a5, a6⟩
  have := tab_far r (a3 r hr)
  push_cast
  omega

theorem wt_nonneg : ∀ l : List Int, 0 ≤ Wf l
  | [] => Int.le_refl _
  | f :: l => by
    have := wt_nonneg l
    have h2 : 0 ≤ wt f := by unfold wt; exact Int.pow_nonneg (by decide)
    unfold Wf at this ⊢
    rw [List.map_cons, List.sum_cons]
    omega
theorem heavy_of : ∀ l : List Int, l.any (· == 0) = true → 16 ≤ Wf l
  | f :: l, h => by
    rw [List.any_cons, Bool.or_eq_true] at h
    have h1 := wt_nonneg l
    have h2 : 0 ≤ wt f := by unfold wt; exact Int.pow_nonneg (by decide)
    unfold Wf at h1 ⊢
    rw [List.map_cons, List.sum_cons]
    rcases h with h | h
    · have : f = 0 := beq_iff_eq.mp h
      subst this
      have : wt 0 = 16 := by decide
      omega
    · have := heavy_of l h
      unfold Wf at this
      omega
theorem heavy_zero {c : List Row} (_ : FinC c) (h : (fars c).any (· == 0) = true) : 16 ≤ Wf (fars c) := heavy_of _ h

section
variable {prog : Program} {w : World} {k : Nat} {s₀ : Shared} {h₁ : Heap} {d : FD}

theorem swap_law (hd : d.sc = lsc) : swapB s6 nRows (pxOf (stAt fLaw 6)) d = true := by
  obtain ⟨nm, sc, L, a, cd⟩ := d
  subst hd
  kernel_rfl

theorem law_runs (H : Host prog w gT h₁ k d s₀) (hd : d.sc = lsc) {ns : List Int} (hn : ns.length ≤ 1000) :
    Runs prog w k d s₀ (ofL [(nScript, intsPV ns)]) fLaw.body (fun f _ => f = .ret (.atom (.bool true))) := by
  have hb : fLaw.body = [stAt fLaw 0, stAt fLaw 1, stAt fLaw 2, stAt fLaw 3, stAt fLaw 4, stAt fLaw 5, stAt fLaw 6, stAt fLaw 7, stAt fLaw 8, stAt fLaw 9, stAt fLaw 10, stAt fLaw 11, stAt fLaw 12, stAt fLaw 13] := by kernel_rfl
  rw [hb]
  refine Runs.assign H (x := nOwn) (e := valE (stAt fLaw 0)) (by kernel_rfl) (by rw [hd]; exact s0Val) rfl (by rw [hd]; kernel_rfl) ?_
  refine Runs.assign H (x := nDraws) (e := s1) (by kernel_rfl) (by rw [hd]; exact s1Val hn) rfl (by rw [hd]; kernel_rfl) ?_
  obtain ⟨d0, d1, d2, d3, d4, d5, d6, h2⟩ := s2Val (ds := (ns.take 7).map fun x => x.fmod 1000) (P := intsPV ns) (by simp; omega)
  refine Runs.assign H (x := nDraws) (e := valE (stAt fLaw 2)) (by kernel_rfl) (by rw [hd]; exact h2) rfl (by rw [hd]; kernel_rfl) ?_
  refine Runs.weaken (ρ₀ := ofL [(nDraws, D7 d0 d1 d2 d3 d4 d5 d6)]) (sub_map (by kernel_rfl)) ?_
  refine Runs.assign H (x := nBound) (e := valE (stAt fLaw 3)) (by kernel_rfl) (by rw [hd]; exact s3Val) rfl (by rw [hd]; kernel_rfl) ?_
  refine Runs.assign H (x := nNames) (e := valE (stAt fLaw 4)) (by kernel_rfl) (by rw [hd]; exact s4Val) rfl (by rw [hd]; kernel_rfl) ?_
  refine Runs.assign H (x := nFars) (e := s5) (by kernel_rfl) (by rw [hd]; exact s5Val) rfl (by rw [hd]; kernel_rfl) ?_
  have q0 := farOf_is d0
  have q1 := farOf_is d1
  have q2 := farOf_is d2
  have q3 := farOf_is d3
  generalize farOf d0 = f0 at q0
  generalize farOf d1 = f1 at q1
  generalize farOf d2 = f2 at q2
  generalize farOf d3 = f3 at q3
  obtain ⟨b1, b2, b3, b4⟩ := start_ok q0 q1 q2 q3
  generalize d6.fmod 9 - 1 = bnd
  refine Runs.appendS H (x := nRows) (px := pxOf (stAt fLaw 6)) (c := s6) (e := s7) (elt := kid 0 s6) (gens := [⟨kid 2 s6, kid 1 s6, ifsOf s6, 0⟩]) (cs := scOf s6) (pos := s6.pos) (sp := posSt (stAt fLaw 6)) (npos := (kid 9 (valE (stAt fLaw 7))).pos) (ap := posN (valE (stAt fLaw 7))) (cp := (valE (stAt fLaw 7)).pos) (ep := posSt (stAt fLaw 7)) (l := ((rows4 f0 f1 f2 f3).map wr).map .str) (a := .str (wr (3, tI))) (by kernel_rfl) (by kernel_rfl) (by kernel_rfl) (by kernel_rfl) (by kernel_rfl) (by kernel_rfl) (swap_law hd) (by rw [hd]; exact s6Val q0 q1 q2 q3) (by rw [hd]; exact s7Val) (by simp [rows4]) ?_
  have er : PV.list (((rows4 f0 f1 f2 f3).map wr).map AV.str ++ [.str (wr (3, tI))]) = rowsPV (book0 f0 f1 f2 f3) := by
    unfold rowsPV book0
    simp
  rw [er]
  refine Runs.assign H (x := nBook) (e := valE (stAt fLaw 8)) (by kernel_rfl) (by rw [hd]; exact s8Val) rfl (by rw [hd]; kernel_rfl) ?_
  generalize hD : D7 d0 d1 d2 d3 d4 d5 d6 = D
  refine Runs.weaken (ρ₀ := ofL [(nBook, bookPV (book0 f0 f1 f2 f3)), (nRows, rowsPV (book0 f0 f1 f2 f3)), (nBound, .atom (.int bnd)), (nDraws, D)]) (sub_map (by kernel_rfl)) ?_
  refine Runs.assign H (x := nRich) (e := s9) (by kernel_rfl) (by rw [hd]; exact s9Val b4 (by simp [book0, rows4])) rfl (by rw [hd]; kernel_rfl) ?_
  rw [← b3]
  generalize hrich : decide (16 ≤ Wf (fars (sortRows (book0 f0 f1 f2 f3)))) = rich
  refine Runs.weaken (ρ₀ := ofL (env0 D bnd rich (rowsPV (book0 f0 f1 f2 f3)) (bookPV (book0 f0 f1 f2 f3)))) (sub_map (by kernel_rfl)) ?_
  have hb5 : (book0 f0 f1 f2 f3).length ≤ 5 := by simp [book0, rows4]
  generalize book0 f0 f1 f2 f3 = bb at b1 b2 hrich hb5
  refine Runs.cons (P1 := fun f ρ' => f = .next ∧ ∃ c, FinC c ∧ (fars c).any (· == 0) = rich ∧ (rich = false → c = []) ∧ Sub (ofL (env0 D bnd rich (rowsPV c) (bookPV c))) ρ') ?_ (fun ρ' h' => ?_) (fun _ h => by cases h.1) (fun _ _ h => by cases h.1)
  · refine Runs.forS H (x := nTurn) (it := valE (stAt fLaw 10)) (b := bodyOf (stAt fLaw 10)) (m := 3) (fun t ρ => ∃ b c, b.length ≤ 5 ∧ sortRows b = c ∧ sortStrs (b.map wr) = c.map wr ∧ (t = 0 ∨ b = c) ∧ GoodC t c ∧ decide (16 ≤ Wf (fars c)) = rich ∧ Sub (ofL (env0 D bnd rich (rowsPV b) (bookPV b))) ρ) (by kernel_rfl) (by rw [hd]; exact s10Val) (by omega) (by rw [hd]; kernel_rfl) ?_ ?_ ?_
    · exact ⟨bb, _, hb5, rfl, b1, .inl rfl, b2, hrich, Sub.refl _⟩
    · rintro t ρ ht ⟨b, c, c1, c2, c3, _, c5, c6, c7⟩
      have s1 : Sub (ofL (env1 t D bnd rich (rowsPV b) (bookPV b))) (upd ρ nTurn (.atom (.int (t : Int)))) := by
        unfold env1
        rw [← upd_ofL]
        intro y p e
        unfold upd at e ⊢
        split at e
        · rename_i h; rw [if_pos h]; exact e
        · rename_i h; rw [if_neg h]; exact c7 _ _ e
      refine Runs.weaken s1 ?_
      subst hD
      refine Runs.mono (turn_runs H hd ht c1 c2 c3 c5 c6) fun f ρ' hp => ?_
      rcases hp with ⟨rfl, c', g', w', s'⟩ | ⟨rfl, c', g', w', z', s'⟩
      · exact ⟨c', c', g'.len, sortRows_id g'.len g'.ord, sortStrs_id g'.len g'.ord, .inr rfl, g', w', s'⟩
      · refine ⟨rfl, c', g', ?_, fun hr => ?_, s'⟩
        · rw [z', ← w']
          refine (decide_eq_true ?_).symm
          exact heavy_zero g' z'
        · rw [hr] at w'
          exact absurd (heavy_zero g' z') (of_decide_eq_false w')
    · rintro ρ ⟨b, c, c1, c2, c3, c4, c5, c6, c7⟩
      have hbc : b = c := by
        rcases c4 with h | h
        · first | exact no_some h | cases h
        · exact h
      subst hbc
      have hc : b = [] := by
        cases b with
        | nil => rfl
        | cons r l =>
          have h1 := c5.top r List.mem_cons_self
          have h2 := tab_far r (c5.mem r List.mem_cons_self)
          push_cast at h1
          omega
      subst hc
      refine ⟨rfl, [], ⟨by simp, fun r hr => (by cases hr), List.Pairwise.nil⟩, ?_, fun _ => rfl, c7⟩
      rw [← c6]
      rfl
  · obtain ⟨_, c, gf, ha, hp, hsub⟩ := h'
    refine Runs.weaken hsub ?_
    refine Runs.assign H (x := nWon) (e := wonE) (by kernel_rfl) (by rw [hd]; exact s11Val gf) rfl (by rw [hd]; kernel_rfl) ?_
    rw [ha]
    refine Runs.ifNo H (t := valE (stAt fLaw 12)) (b := bodyOf (stAt fLaw 12)) (by kernel_rfl) ?_ ?_
    · rw [hd]
      cases rich with
      | true => exact s12Rich
      | false =>
        rw [hp rfl]
        exact s12Poor
    · exact Runs.ret H (e := s13) (by kernel_rfl) (by rw [hd]; exact s13Val gf) rfl
end
end Mine

end

section -- Link1
open PySem PySem.W PyProof.Rows
set_option maxRecDepth 100000
namespace Mine

noncomputable def pickPos (n : Str) : List Stmt → Pos
  | .FunctionDef name _ _ _ _ _ _ _ _ pos :: r => if name == n then pos else pickPos n r
  | _ :: r => pickPos n r
  | [] => ⟨0, 0, 0, 0⟩
noncomputable def recOf (f : FnRec) : DefRec := ⟨f.name, f.params, f.body, f.sc, pickPos f.name PySem.Challenge.pw_re0093_01.main.body⟩

noncomputable def globB (es : Array DictEntry) : Bool :=
  (fnNames.all fun y => nsFind es y.1 == some y.2) && (bltNames.all fun y => nsFind es y.1 == none) &&
  (match nsFind es (Str.ofString "CRLF") with | some (.str x _) => x == crlfS | _ => false) && (match nsFind es (Str.ofString "_MOVE_COST") with | some (.int i _) => i == 2 | _ => false)
noncomputable def patB (K : Frag) (a : Addr) (code : Array Nat) (kind : Nat) : Bool := match K.lookup a with
  | some ⟨cls, none, .fields fs, _⟩ => (cls == .type "re.Pattern") && (Builtin.Re.reRawNat (fs.getD 6 .none) == kind) && (Builtin.Re.reRawNat (fs.getD 2 .none) == 0) && (match fs.getD 5 .none with
    | .ref c => match K.lookup c with
      | some ⟨_, _, .seq xs _, _⟩ => (xs.map Builtin.Re.reRawOf).map (·.toNat) == code
      | _ => false
    | _ => false)
  | _ => false
noncomputable def kOk (K : Frag) : Bool := (match K.lookup mainGlobals with | some ⟨_, _, .dict es _, _⟩ => globB es | _ => false) && patB K re1A code1 1 && patB K re2A code2 0

theorem pat_of {K : Frag} {h : Heap} (X : K.In h) {a : Addr} {code : Array Nat} {kind : Nat} (hb : patB K a code kind = true) : PatIs h a code kind := by
  unfold patB at hb
  split at hb
  · rename_i cls fs sl hK
    simp only [Bool.and_eq_true, beq_iff_eq] at hb
    obtain ⟨⟨⟨q1, q2⟩, q3⟩, q4⟩ := hb
    split at q4
    · rename_i c hc
      split at q4
      · rename_i cl di xs n sl2 hK2
        exact ⟨_, fs, c, _, xs, n, X _ _ hK, q1, rfl, rfl, q2, q3, hc, X _ _ hK2, rfl, beq_iff_eq.mp q4⟩
      · cases q4
    · cases q4
  · first | exact no_some hb | cases hb

theorem blts : ∀ y ∈ bltNames, bootBuiltins y.1 = some y.2 ∧ y.1 ≠ Str.ofString "__name__" := by decide +kernel

section
variable {q : Program} {loose : List Str} {mean : ExcName → Option Value} {mg mb : Str → Option Value} {h : Heap}

theorem glob_of (T : Top q loose mean mg mb h) {K : Frag} (X : K.In h) (hk : kOk K = true) : (∀ y ∈ fnNames, mg y.1 = some y.2) ∧ (∀ y ∈ bltNames, mg y.1 = none ∧ mb y.1 = some y.2) ∧ (∃ t, mg (Str.ofString "CRLF") = some (.str crlfS t)) ∧ (∃ t, mg (Str.ofString "_MOVE_COST") = some (.int 2 t)) := by
  unfold kOk at hk
  simp only [Bool.and_eq_true] at hk
  have hk := hk.1.1
  split at hk
  · rename_i cls di es n sl hK
    obtain ⟨o, es', ep, e1, e2, _, e3⟩ := T.g
    have e4 := X _ _ hK
    rw [e1] at e4
    cases e4
    cases e2
    unfold globB at hk
    simp only [Bool.and_eq_true, List.all_eq_true, beq_iff_eq] at hk
    obtain ⟨⟨⟨k1, k2⟩, k3⟩, k4⟩ := hk
    refine ⟨fun y hy => (e3 _).symm.trans (k1 y hy), fun y hy => ⟨(e3 _).symm.trans (k2 y hy), (T.builtins _ (blts y hy).2).trans (blts y hy).1⟩, ?_, ?_⟩
    · rw [e3] at k3
      split at k3
      · rename_i x t he
        have := beq_iff_eq.mp k3
        subst this
        exact ⟨t, he⟩
      · cases k3
    · rw [e3] at k4
      split at k4
      · rename_i x t he
        have := beq_iff_eq.mp k4
        subst this
        exact ⟨t, he⟩
      · cases k4
  · cases hk

theorem gl_of (T : Top q loose mean mg mb h) {K : Frag} (X : K.In h) (hk : kOk K = true) : Gl h γ0 := by
  obtain ⟨g1, g2, ⟨t1, g3⟩, ⟨t2, g4⟩⟩ := glob_of T X hk
  refine ⟨mg, mb, T.g, T.b, fun x p e => ?_⟩
  have e := mem_of_lookupL e
  unfold γtab at e
  rcases List.mem_append.mp e with e | e
  · obtain ⟨y, hy, e⟩ := List.mem_map.mp e
    cases e
    rcases List.mem_append.mp hy with hy | hy
    · exact ⟨y.2, .inl (g1 y hy), fun h' => rfl⟩
    · exact ⟨y.2, .inr (g2 y hy), fun h' => rfl⟩
  · rcases List.mem_cons.mp e with e | e
    · first | exact no_some e | cases e
      exact ⟨_, .inl g3, fun h' => ⟨t1, rfl⟩⟩
    · cases List.mem_singleton.mp e
      exact ⟨_, .inl g4, fun h' => ⟨t2, rfl⟩⟩

theorem fnAt_of (T : Top q loose mean mg mb h) {f : FnRec} {a : Addr} (hm : recOf f ∈ recsOf q) (hg : mg f.name = some (.ref a))
    (hb : ∀ (pm cd doc : Value) (vs : List Value), vs.length = f.names.length → bindArgs (Calls.docDef f.name f.params f.body f.sc pm cd doc) ⟨vs, []⟩ = pure (f.names.zip vs)) : FnAt h a f := by
  obtain ⟨a', o, pm, cd, doc, q1, q2, q3, q4⟩ := T.fn _ hm
  have e : mg f.name = some (.ref a') := q1
  rw [hg] at e
  cases e
  exact ⟨o, pm, cd, doc, q2, q3, q4, hb pm cd doc⟩

theorem len2 {α : Type} {l : List α} (h : l.length = 2) : ∃ a b, l = [a, b] := by
  cases l with
  | nil => first | exact no_some h | cases h
  | cons a l =>
    obtain ⟨b, rfl⟩ := List.length_eq_one_iff.mp (Nat.succ.inj h)
    exact ⟨a, b, rfl⟩
theorem len3 {α : Type} {l : List α} (h : l.length = 3) : ∃ a b c, l = [a, b, c] := by
  cases l with
  | nil => first | exact no_some h | cases h
  | cons a l =>
    obtain ⟨b, c, rfl⟩ := len2 (Nat.succ.inj h)
    exact ⟨a, b, c, rfl⟩

theorem b1_of {f : FnRec} (hn : f.names.length = 1) (h : ∀ (pm cd doc a : Value), bindArgs (Calls.docDef f.name f.params f.body f.sc pm cd doc) ⟨[a], []⟩ = pure (f.names.zip [a])) :
    ∀ (pm cd doc : Value) (vs : List Value), vs.length = f.names.length → bindArgs (Calls.docDef f.name f.params f.body f.sc pm cd doc) ⟨vs, []⟩ = pure (f.names.zip vs) := fun pm cd doc vs hl => by
  obtain ⟨a, rfl⟩ := List.length_eq_one_iff.mp (hl.trans hn)
  exact h pm cd doc a
theorem b2_of {f : FnRec} (hn : f.names.length = 2) (h : ∀ (pm cd doc a b : Value), bindArgs (Calls.docDef f.name f.params f.body f.sc pm cd doc) ⟨[a, b], []⟩ = pure (f.names.zip [a, b])) :
    ∀ (pm cd doc : Value) (vs : List Value), vs.length = f.names.length → bindArgs (Calls.docDef f.name f.params f.body f.sc pm cd doc) ⟨vs, []⟩ = pure (f.names.zip vs) := fun pm cd doc vs hl => by
  obtain ⟨a, b, rfl⟩ := len2 (hl.trans hn)
  exact h pm cd doc a b
theorem b3_of {f : FnRec} (hn : f.names.length = 3) (h : ∀ (pm cd doc a b c : Value), bindArgs (Calls.docDef f.name f.params f.body f.sc pm cd doc) ⟨[a, b, c], []⟩ = pure (f.names.zip [a, b, c])) :
    ∀ (pm cd doc : Value) (vs : List Value), vs.length = f.names.length → bindArgs (Calls.docDef f.name f.params f.body f.sc pm cd doc) ⟨vs, []⟩ = pure (f.names.zip vs) := fun pm cd doc vs hl => by
  obtain ⟨a, b, c, rfl⟩ := len3 (hl.trans hn)
  exact h pm cd doc a b c

theorem bindStrx' (pm cd doc a : Value) : bindArgs (Calls.docDef fStrx.name fStrx.params fStrx.body fStrx.sc pm cd doc) ⟨[a], []⟩ = pure (fStrx.names.zip [a]) := by kernel_rfl
theorem lenStrx : fStrx.names.length = 1 := by kernel_rfl
theorem bindStrx : ∀ (pm cd doc : Value) (vs : List Value), vs.length = fStrx.names.length → bindArgs (Calls.docDef fStrx.name fStrx.params fStrx.body fStrx.sc pm cd doc) ⟨vs, []⟩ = pure (fStrx.names.zip vs) := b1_of lenStrx bindStrx'
theorem bindStrip' (pm cd doc a b : Value) : bindArgs (Calls.docDef fStrip.name fStrip.params fStrip.body fStrip.sc pm cd doc) ⟨[a, b], []⟩ = pure (fStrip.names.zip [a, b]) := by kernel_rfl
theorem lenStrip : fStrip.names.length = 2 := by kernel_rfl
theorem bindStrip : ∀ (pm cd doc : Value) (vs : List Value), vs.length = fStrip.names.length → bindArgs (Calls.docDef fStrip.name fStrip.params fStrip.body fStrip.sc pm cd doc) ⟨vs, []⟩ = pure (fStrip.names.zip vs) := b2_of lenStrip bindStrip'
theorem bindApp' (pm cd doc a b : Value) : bindArgs (Calls.docDef fApp.name fApp.params fApp.body fApp.sc pm cd doc) ⟨[a, b], []⟩ = pure (fApp.names.zip [a, b]) := by kernel_rfl
theorem lenApp : fApp.names.length = 2 := by kernel_rfl
theorem bindApp : ∀ (pm cd doc : Value) (vs : List Value), vs.length = fApp.names.length → bindArgs (Calls.docDef fApp.name fApp.params fApp.body fApp.sc pm cd doc) ⟨vs, []⟩ = pure (fApp.names.zip vs) := b2_of lenApp bindApp'
theorem bindQuote' (pm cd doc a : Value) : bindArgs (Calls.docDef fQuote.name fQuote.params fQuote.body fQuote.sc pm cd doc) ⟨[a], []⟩ = pure (fQuote.names.zip [a]) := by kernel_rfl
theorem lenQuote : fQuote.names.length = 1 := by kernel_rfl
theorem bindQuote : ∀ (pm cd doc : Value) (vs : List Value), vs.length = fQuote.names.length → bindArgs (Calls.docDef fQuote.name fQuote.params fQuote.body fQuote.sc pm cd doc) ⟨vs, []⟩ = pure (fQuote.names.zip vs) := b1_of lenQuote bindQuote'
theorem bindFix' (pm cd doc a : Value) : bindArgs (Calls.docDef fFix.name fFix.params fFix.body fFix.sc pm cd doc) ⟨[a], []⟩ = pure (fFix.names.zip [a]) := by kernel_rfl
theorem lenFix : fFix.names.length = 1 := by kernel_rfl
theorem bindFix : ∀ (pm cd doc : Value) (vs : List Value), vs.length = fFix.names.length → bindArgs (Calls.docDef fFix.name fFix.params fFix.body fFix.sc pm cd doc) ⟨vs, []⟩ = pure (fFix.names.zip vs) := b1_of lenFix bindFix'
theorem bindLev' (pm cd doc a b c : Value) : bindArgs (Calls.docDef fLev.name fLev.params fLev.body fLev.sc pm cd doc) ⟨[a, b, c], []⟩ = pure (fLev.names.zip [a, b, c]) := by kernel_rfl
theorem lenLev : fLev.names.length = 3 := by kernel_rfl
theorem bindLev : ∀ (pm cd doc : Value) (vs : List Value), vs.length = fLev.names.length → bindArgs (Calls.docDef fLev.name fLev.params fLev.body fLev.sc pm cd doc) ⟨vs, []⟩ = pure (fLev.names.zip vs) := b3_of lenLev bindLev'
theorem bindSent' (pm cd doc a b c : Value) : bindArgs (Calls.docDef fSent.name fSent.params fSent.body fSent.sc pm cd doc) ⟨[a, b, c], []⟩ = pure (fSent.names.zip [a, b, c]) := by kernel_rfl
theorem lenSent : fSent.names.length = 3 := by kernel_rfl
theorem bindSent : ∀ (pm cd doc : Value) (vs : List Value), vs.length = fSent.names.length → bindArgs (Calls.docDef fSent.name fSent.params fSent.body fSent.sc pm cd doc) ⟨vs, []⟩ = pure (fSent.names.zip vs) := b3_of lenSent bindSent'
theorem bindWrit' (pm cd doc a : Value) : bindArgs (Calls.docDef fWrit.name fWrit.params fWrit.body fWrit.sc pm cd doc) ⟨[a], []⟩ = pure (fWrit.names.zip [a]) := by kernel_rfl
theorem lenWrit : fWrit.names.length = 1 := by kernel_rfl
theorem bindWrit : ∀ (pm cd doc : Value) (vs : List Value), vs.length = fWrit.names.length → bindArgs (Calls.docDef fWrit.name fWrit.params fWrit.body fWrit.sc pm cd doc) ⟨vs, []⟩ = pure (fWrit.names.zip vs) := b1_of lenWrit bindWrit'
theorem bindLaw' (pm cd doc a : Value) : bindArgs (Calls.docDef fLaw.name fLaw.params fLaw.body fLaw.sc pm cd doc) ⟨[a], []⟩ = pure (fLaw.names.zip [a]) := by kernel_rfl
theorem lenLaw : fLaw.names.length = 1 := by kernel_rfl
theorem bindLaw : ∀ (pm cd doc : Value) (vs : List Value), vs.length = fLaw.names.length → bindArgs (Calls.docDef fLaw.name fLaw.params fLaw.body fLaw.sc pm cd doc) ⟨vs, []⟩ = pure (fLaw.names.zip vs) := b1_of lenLaw bindLaw'
noncomputable def recsB (l : List DefRec) : Prop := recOf fStrx ∈ l ∧ recOf fStrip ∈ l ∧ recOf fApp ∈ l ∧ recOf fQuote ∈ l ∧ recOf fFix ∈ l ∧ recOf fLev ∈ l ∧ recOf fSent ∈ l ∧ recOf fWrit ∈ l ∧ recOf fLaw ∈ l

theorem inStrx : (fStrx.name, vStrx) ∈ fnNames := by decide +kernel
theorem inStrip : (fStrip.name, vStrip) ∈ fnNames := by decide +kernel
theorem inApp : (fApp.name, vApp) ∈ fnNames := by decide +kernel
theorem inQuote : (fQuote.name, vQuote) ∈ fnNames := by decide +kernel
theorem inFix : (fFix.name, vFix) ∈ fnNames := by decide +kernel
theorem inLev : (fLev.name, vLev) ∈ fnNames := by decide +kernel
theorem inSent : (fSent.name, vSent) ∈ fnNames := by decide +kernel
theorem inWrit : (fWrit.name, vWrit) ∈ fnNames := by decide +kernel
theorem heap_of (T : Top q loose mean mg mb h) {K : Frag} (X : K.In h) (hk : kOk K = true) (hr : recsB (recsOf q)) : HeapOk h := by
  obtain ⟨r1, r2, r3, r4, r5, r6, r7, r8, _⟩ := hr
  have g1 := (glob_of T X hk).1
  have hk' := hk
  unfold kOk at hk'
  simp only [Bool.and_eq_true] at hk'
  have f1 : FnAt h 45 fStrx := fnAt_of T r1 (g1 _ inStrx) bindStrx
  have f2 : FnAt h 52 fStrip := fnAt_of T r2 (g1 _ inStrip) bindStrip
  have f3 : FnAt h 66 fApp := fnAt_of T r3 (g1 _ inApp) bindApp
  have f4 : FnAt h 273 fQuote := fnAt_of T r4 (g1 _ inQuote) bindQuote
  have f5 : FnAt h 280 fFix := fnAt_of T r5 (g1 _ inFix) bindFix
  have f6 : FnAt h 294 fLev := fnAt_of T r6 (g1 _ inLev) bindLev
  have f7 : FnAt h 299 fSent := fnAt_of T r7 (g1 _ inSent) bindSent
  have f8 : FnAt h 304 fWrit := fnAt_of T r8 (g1 _ inWrit) bindWrit
  exact ⟨T.nolimit, f1, f2, f3, f4, f5, f6, f7, f8, pat_of X hk'.1.2, pat_of X hk'.2, gl_of T X hk⟩

theorem recs_of (_ : Top q loose mean mg mb h) (x : recsB (recsOf q)) : recsB (recsOf q) := x

theorem nameLaw : fLaw.name = Str.ofString "law" := by kernel_rfl
theorem law_at (T : Top q loose mean mg mb h) (hr : recsB (recsOf q)) {a : Addr} (hg : mg (Str.ofString "law") = some (.ref a)) : FnAt h a fLaw :=
  fnAt_of T hr.2.2.2.2.2.2.2.2 (by rw [nameLaw]; exact hg) bindLaw
end

theorem ints_paired : ∀ {vs : List Value} {ns : List Int}, IntsAre vs ns → Paired AIs vs (ns.map .int)
  | _, _, .nil => .nil
  | _, _, .cons n t r => .cons ⟨t, rfl⟩ (ints_paired r)

theorem ok_caller : Ok 5 callerA := ⟨rfl, by decide +kernel, by decide +kernel⟩

theorem law_sub (ns : List Int) : Sub (ofL [(nScript, intsPV ns)]) (argV (fLaw.names.zip [intsPV ns]) fun _ => none) := sub_map (by kernel_rfl)
theorem law_hc (ns : List Int) : (decide (([intsPV ns] : List PV).length = fLaw.names.length) && ([intsPV ns] : List PV).all (·.stor)) = true := by kernel_rfl
theorem law_key {prog : Program} {w : World} {k : Nat} {h₁ : Heap} {ns : List Int} (hn : ns.length ≤ 1000) (d : FD) (s₀ : Shared) (hd : d.sc = fLaw.sc) (hh : Host prog w gT h₁ k d s₀) :
    Runs prog w k d s₀ (argV (fLaw.names.zip [intsPV ns]) fun _ => none) fLaw.body (fun q _ => q = .ret (.atom (.bool true))) := by
  have e : lsc = fLaw.sc := by unfold lsc; with_reducible rfl
  have hd' : d.sc = lsc := by rw [e]; with_reducible exact hd
  with_reducible refine Runs.weaken (law_sub ns) (law_runs hh hd' hn)

theorem law_call {prog : Program} {w : World} {s₁ : Shared} {fa L : Addr} {vs : List Value} {ns : List Int} (H : HeapOk s₁.heap) (hf : FnAt s₁.heap fa fLaw) (hL : s₁.heap.IsList L vs.toArray) (hI : IntsAre vs ns) (hn : ns.length ≤ 1000)
    {Q : Value → Shared → Prop} {E : Value → Shared → Prop} (hQ : ∀ s', Keeps s₁ s' → Q (.bool true) s') : wpAny (model prog w) callerA (call (.ref fa) [.ref L] []) Q E s₁ := by
  have hp : Paired (Is s₁.heap) [.ref L] [intsPV ns] := .cons ⟨L, vs, rfl, hL, ints_paired hI⟩ .nil
  have hA : AppOk prog w gT s₁.heap 4 := appT_ok H
  have hM : MethOk prog w gT s₁.heap 4 := methT_ok H
  have hG : Gl s₁.heap gT.γ := H.gl
  have key := law_key (prog := prog) (w := w) (k := 4) (h₁ := s₁.heap) hn
  have hQ' : ∀ v s', Is s'.heap v (.atom (.bool true)) → Keeps s₁ s' → Q v s' := fun v s' hv k => by
    have hv : v = .bool true := hv
    subst hv
    exact hQ s' k
  with_reducible refine fun_okR hA hM hf good_law H.lim hG (law_hc ns) key callerA s₁ [.ref L] ok_caller (Ext.refl _) hp Q E hQ'
end Mine

end
section -- the twins that the head would else make of its own tables (their proofs grow with the square of the table): these names are taken here, so it goes without them
namespace Mine
noncomputable def whole.tw15749300765810012946 : Unit := ()
noncomputable def whole.tw9707250908836423824 : Unit := ()
noncomputable def whole.tw1217171336636241682 : Unit := ()
noncomputable def whole.tw17692944630003236201 : Unit := ()
noncomputable def whole.tw2602410361197313117 : Unit := ()
noncomputable def whole.tw18355801550529357348 : Unit := ()
noncomputable def whole.tw10508132388819688532 : Unit := ()
noncomputable def whole.tw1470681187219097129 : Unit := ()
noncomputable def whole.tw3172664488797932361 : Unit := ()
noncomputable def whole.tw10301058789083799970 : Unit := ()
noncomputable def whole.tw4050174410304208086 : Unit := ()
noncomputable def whole.tw5107446512722659286 : Unit := ()
noncomputable def whole.tw14654356449610600485 : Unit := ()
noncomputable def whole.tw5200267601275447864 : Unit := ()
noncomputable def whole.tw12478609949429157409 : Unit := ()
noncomputable def whole.tw11896201609302106115 : Unit := ()
noncomputable def whole.tw2404457027504551060 : Unit := ()
noncomputable def whole.tw15189915617685484396 : Unit := ()
noncomputable def whole.tw14600202874347100693 : Unit := ()
noncomputable def whole.tw12121751950062872279 : Unit := ()
noncomputable def whole.tw197767806040249225 : Unit := ()
noncomputable def whole.tw4672207989499910625 : Unit := ()
noncomputable def whole.tw6607592282417151106 : Unit := ()
noncomputable def whole.tw482805393138593929 : Unit := ()
noncomputable def whole.tw13960669724093699300 : Unit := ()
noncomputable def whole.tw3769988826177174460 : Unit := ()
noncomputable def whole.tw15013576625721048695 : Unit := ()
noncomputable def whole.tw12346461896057553308 : Unit := ()
noncomputable def whole.tw12740454516981205806 : Unit := ()
noncomputable def whole.tw13151456211161260105 : Unit := ()
noncomputable def whole.tw17022761755405916213 : Unit := ()
noncomputable def whole.tw13149474316023798553 : Unit := ()
noncomputable def whole.tw8799044985600393684 : Unit := ()
noncomputable def whole.tw4918820536221260690 : Unit := ()
noncomputable def whole.tw10354518954362131899 : Unit := ()
noncomputable def whole.tw12186894253409539890 : Unit := ()
noncomputable def whole.tw9406530864695525851 : Unit := ()
noncomputable def whole.tw29202618045891971 : Unit := ()
noncomputable def whole.tw1329479340354266572 : Unit := ()
noncomputable def whole.tw12207685810698929643 : Unit := ()
noncomputable def whole.tw17333791097184162534 : Unit := ()
noncomputable def whole.tw12442016628978143412 : Unit := ()
noncomputable def whole.tw4338333698743118245 : Unit := ()
noncomputable def whole.tw11690859581915506653 : Unit := ()
noncomputable def whole.tw5477020428343274486 : Unit := ()
noncomputable def whole.tw272886880108286182 : Unit := ()
noncomputable def whole.tw9787344453429475573 : Unit := ()
noncomputable def whole.tw4882939151822159636 : Unit := ()
noncomputable def whole.tw12562849145585476731 : Unit := ()
noncomputable def whole.tw11116944545036436439 : Unit := ()
noncomputable def whole.tw4385814770128095146 : Unit := ()
noncomputable def whole.tw3150075250938504248 : Unit := ()
noncomputable def whole.tw9235561108164731721 : Unit := ()
noncomputable def whole.tw5997644934508616594 : Unit := ()
noncomputable def whole.tw16800997667575721541 : Unit := ()
noncomputable def whole.tw7466904020207815869 : Unit := ()
noncomputable def whole.tw13670568880753163426 : Unit := ()
noncomputable def whole.tw14985398631553066591 : Unit := ()
noncomputable def whole.tw7669669677095693358 : Unit := ()
noncomputable def whole.tw17169624498616045403 : Unit := ()
noncomputable def whole.tw15753584648845244147 : Unit := ()
noncomputable def whole.tw4906199842802962827 : Unit := ()
noncomputable def whole.tw13421554083983103951 : Unit := ()
noncomputable def whole.tw4064402483387142291 : Unit := ()
noncomputable def whole.tw9121730484126507938 : Unit := ()
noncomputable def whole.tw2302033354624455591 : Unit := ()
noncomputable def whole.tw11670040512431834200 : Unit := ()
noncomputable def whole.tw2249504304506360813 : Unit := ()
noncomputable def whole.tw4259948822494864058 : Unit := ()
noncomputable def whole.tw8444963059077079450 : Unit := ()
noncomputable def whole.tw1255956871972877904 : Unit := ()
noncomputable def whole.tw15117479482001565679 : Unit := ()
noncomputable def whole.tw13168973162597449349 : Unit := ()
noncomputable def whole.tw60084206612377972 : Unit := ()
noncomputable def whole.tw11024528398593038377 : Unit := ()
noncomputable def whole.tw8350250358471643572 : Unit := ()
noncomputable def whole.tw4357746044423742650 : Unit := ()
noncomputable def whole.tw16708263669468244151 : Unit := ()
noncomputable def whole.tw13762013822233420738 : Unit := ()
noncomputable def whole.tw1788125545244323292 : Unit := ()
noncomputable def whole.tw7525632177321363660 : Unit := ()
noncomputable def whole.tw1999433592531618509 : Unit := ()
noncomputable def whole.tw5800983766791026078 : Unit := ()
noncomputable def whole.tw16739781802365451968 : Unit := ()
noncomputable def whole.tw8454442166302862320 : Unit := ()
noncomputable def whole.tw2198523743367551842 : Unit := ()
noncomputable def whole.tw14492196311604417308 : Unit := ()
noncomputable def whole.tw14120694959671187261 : Unit := ()
noncomputable def whole.tw12111672374848980225 : Unit := ()
noncomputable def whole.tw7781976810680006178 : Unit := ()
noncomputable def whole.tw1335791156554467795 : Unit := ()
noncomputable def whole.tw9378324648519576816 : Unit := ()
noncomputable def whole.tw9242471422690250210 : Unit := ()
noncomputable def whole.tw16204097115315117350 : Unit := ()
noncomputable def whole.tw1353902047762577225 : Unit := ()
noncomputable def whole.tw7391549574342816922 : Unit := ()
noncomputable def whole.tw6290923202673413122 : Unit := ()
noncomputable def whole.tw18135788421098096370 : Unit := ()
noncomputable def whole.tw7728773200315073681 : Unit := ()
noncomputable def whole.tw420889256603489644 : Unit := ()
noncomputable def whole.tw10178181129370835086 : Unit := ()
noncomputable def whole.tw1072497446573119103 : Unit := ()
noncomputable def whole.tw772474843232632690 : Unit := ()
noncomputable def whole.tw213970696928864655 : Unit := ()
noncomputable def whole.tw8243020233432551205 : Unit := ()
noncomputable def whole.tw14117439955800268797 : Unit := ()
noncomputable def whole.tw3798757254938238448 : Unit := ()
noncomputable def whole.tw13227037874987546118 : Unit := ()
noncomputable def whole.tw12484011378766964031 : Unit := ()
noncomputable def whole.tw13719171679594634575 : Unit := ()
noncomputable def whole.tw17700112632457955127 : Unit := ()
noncomputable def whole.tw2201306404548609547 : Unit := ()
noncomputable def whole.tw14381574177426341226 : Unit := ()
noncomputable def whole.tw7868544009499267292 : Unit := ()
noncomputable def whole.tw7101197657001211085 : Unit := ()
noncomputable def whole.tw6872907005359335961 : Unit := ()
noncomputable def whole.tw17128258169734466478 : Unit := ()
noncomputable def whole.tw17092094596097150618 : Unit := ()
noncomputable def whole.tw12066178620653064874 : Unit := ()
noncomputable def whole.tw10339747121181971505 : Unit := ()
noncomputable def whole.tw6915089677183239634 : Unit := ()
noncomputable def whole.tw14671651394210877623 : Unit := ()
noncomputable def whole.tw13143666931850650640 : Unit := ()
noncomputable def whole.tw803728761352460389 : Unit := ()
noncomputable def whole.tw1469139166737108290 : Unit := ()
noncomputable def whole.tw10887019763833697050 : Unit := ()
noncomputable def whole.tw10951800313117414527 : Unit := ()
noncomputable def whole.tw8615399842404961663 : Unit := ()
noncomputable def whole.tw15835130817642446534 : Unit := ()
noncomputable def whole.tw10590843552420965350 : Unit := ()
noncomputable def whole.tw5586392500970708615 : Unit := ()
noncomputable def whole.tw6396017553259284124 : Unit := ()
noncomputable def whole.tw10499325594661192776 : Unit := ()
noncomputable def whole.tw7056001396292377188 : Unit := ()
noncomputable def whole.tw17583434110615651305 : Unit := ()
noncomputable def whole.tw6150244297128479101 : Unit := ()
noncomputable def whole.tw427333557424167660 : Unit := ()
noncomputable def whole.tw2013318861076662011 : Unit := ()
noncomputable def whole.tw18145388855558949900 : Unit := ()
noncomputable def whole.tw8602141644225615130 : Unit := ()
noncomputable def whole.tw7856580471358416282 : Unit := ()
noncomputable def whole.tw7509650053966640704 : Unit := ()
noncomputable def whole.tw6472696656209681604 : Unit := ()
noncomputable def whole.tw4180466227808675834 : Unit := ()
noncomputable def whole.tw4107823604484434990 : Unit := ()
noncomputable def whole.tw15338273372565686330 : Unit := ()
noncomputable def whole.tw15089273742334493110 : Unit := ()
noncomputable def whole.tw15695161780090201225 : Unit := ()
noncomputable def whole.tw137721658169608169 : Unit := ()
noncomputable def whole.tw7977878525754885090 : Unit := ()
noncomputable def whole.tw7276013540153241084 : Unit := ()
noncomputable def whole.tw17075553230084287909 : Unit := ()
noncomputable def whole.tw14875044017630859624 : Unit := ()
noncomputable def whole.tw8341004590406740810 : Unit := ()
noncomputable def whole.tw5942346508108547180 : Unit := ()
noncomputable def whole.tw3127163415804763599 : Unit := ()
noncomputable def whole.tw1934810232205804993 : Unit := ()
noncomputable def whole.tw17475311184863085016 : Unit := ()
noncomputable def whole.tw15274856360797078626 : Unit := ()
noncomputable def whole.tw15206955865107345967 : Unit := ()
noncomputable def whole.tw14661705875561194100 : Unit := ()
noncomputable def whole.tw1393339623888494026 : Unit := ()
noncomputable def whole.tw13468923340822585488 : Unit := ()
noncomputable def whole.tw13334927893685096626 : Unit := ()
noncomputable def whole.tw10219327507634694686 : Unit := ()
noncomputable def whole.tw8184708281838074206 : Unit := ()
noncomputable def whole.tw8109663874093803249 : Unit := ()
noncomputable def whole.tw6772379921613518395 : Unit := ()
noncomputable def whole.tw13285438998962464343 : Unit := ()
noncomputable def whole.tw13213058742666125385 : Unit := ()
noncomputable def whole.tw10467399731503315703 : Unit := ()
noncomputable def whole.tw9733464779038806419 : Unit := ()
noncomputable def whole.tw4337987958061720545 : Unit := ()
noncomputable def whole.tw16595449952281916149 : Unit := ()
noncomputable def whole.tw16304597587823193687 : Unit := ()
noncomputable def whole.tw5938623499991607928 : Unit := ()
noncomputable def whole.tw17529894129228449367 : Unit := ()
noncomputable def whole.tw12063277863729348616 : Unit := ()
noncomputable def whole.tw11862022474199680377 : Unit := ()
noncomputable def whole.tw3085902745639715626 : Unit := ()
noncomputable def whole.tw280920844665842053 : Unit := ()
noncomputable def whole.tw7185185305316088854 : Unit := ()
noncomputable def whole.tw4725433933799282014 : Unit := ()
noncomputable def whole.tw17395194986337826024 : Unit := ()
noncomputable def whole.tw13974613887430780637 : Unit := ()
noncomputable def whole.tw12381228794656768651 : Unit := ()
noncomputable def whole.tw11357175057958205107 : Unit := ()
noncomputable def whole.tw5201323674647411954 : Unit := ()
noncomputable def whole.tw11836910150536664915 : Unit := ()
noncomputable def whole.tw6648197116569056673 : Unit := ()
noncomputable def whole.tw10301362462094837657 : Unit := ()
noncomputable def whole.tw6891315699540082446 : Unit := ()
noncomputable def whole.tw14407849266092530191 : Unit := ()
noncomputable def whole.tw10088010197232839268 : Unit := ()
noncomputable def whole.tw949743934663060849 : Unit := ()
noncomputable def whole.tw9212966250080664162 : Unit := ()
noncomputable def whole.tw2168223474955763204 : Unit := ()
noncomputable def whole.tw12179455670472476543 : Unit := ()
noncomputable def whole.tw1009531057595266286 : Unit := ()
noncomputable def whole.tw3099174332690161747 : Unit := ()
noncomputable def whole.tw17814491789457634051 : Unit := ()
noncomputable def whole.tw13760198194640045919 : Unit := ()
noncomputable def whole.tw9775085227918541326 : Unit := ()
noncomputable def whole.tw3935972832432928633 : Unit := ()
noncomputable def whole.tw16505068655815891843 : Unit := ()
noncomputable def whole.tw1266484639899004939 : Unit := ()
noncomputable def whole.tw5542149417468696053 : Unit := ()
noncomputable def whole.tw5277582801102665213 : Unit := ()
noncomputable def whole.tw5233578499609466721 : Unit := ()
noncomputable def whole.tw4603890583814415204 : Unit := ()
noncomputable def whole.tw17175008800681467811 : Unit := ()
noncomputable def whole.tw15716183405302250479 : Unit := ()
noncomputable def whole.tw1469495571348798126 : Unit := ()
noncomputable def whole.tw10379991877525085312 : Unit := ()
noncomputable def whole.tw9501391760213346845 : Unit := ()
noncomputable def whole.tw8258574867067344367 : Unit := ()
noncomputable def whole.tw3166543957339863982 : Unit := ()
noncomputable def whole.tw13110515450571257733 : Unit := ()
noncomputable def whole.tw4689585835679557668 : Unit := ()
noncomputable def whole.tw14756447051001558117 : Unit := ()
noncomputable def whole.tw6416634858453334624 : Unit := ()
noncomputable def whole.tw6266228650988000492 : Unit := ()
noncomputable def whole.tw4347982837100205910 : Unit := ()
noncomputable def whole.tw14590790631899776401 : Unit := ()
noncomputable def whole.tw7689902935678670512 : Unit := ()
noncomputable def whole.tw4346055641746905949 : Unit := ()
noncomputable def whole.tw1219099391390118749 : Unit := ()
noncomputable def whole.tw1182916100746360932 : Unit := ()
noncomputable def whole.tw8181180424491326830 : Unit := ()
noncomputable def whole.tw2959683903145980101 : Unit := ()
noncomputable def whole.tw2083198920140632441 : Unit := ()
noncomputable def whole.tw1488662743745869538 : Unit := ()
noncomputable def whole.tw10019450917411332427 : Unit := ()
noncomputable def whole.tw6018008695308894833 : Unit := ()
noncomputable def whole.tw4772658413541480157 : Unit := ()
noncomputable def whole.tw18315055452531851272 : Unit := ()
noncomputable def whole.tw302538394102154784 : Unit := ()
noncomputable def whole.tw9024608533772062355 : Unit := ()
noncomputable def whole.tw16151222146762293071 : Unit := ()
noncomputable def whole.tw4559885085590827626 : Unit := ()
noncomputable def whole.tw1640677438868554593 : Unit := ()
noncomputable def whole.tw15103685750691789098 : Unit := ()
noncomputable def whole.tw12620984872611610876 : Unit := ()
noncomputable def whole.tw5078443471013023264 : Unit := ()
noncomputable def whole.tw16710806586956947785 : Unit := ()
noncomputable def whole.tw9748834850448372353 : Unit := ()
noncomputable def whole.tw2912573282932879776 : Unit := ()
noncomputable def whole.tw1902754551582867561 : Unit := ()
noncomputable def whole.tw4605417425148642151 : Unit := ()
noncomputable def whole.tw161632788893874429 : Unit := ()
noncomputable def whole.tw9416693575131194153 : Unit := ()
noncomputable def whole.tw8699793337390238261 : Unit := ()
noncomputable def whole.tw14725644924352215136 : Unit := ()
noncomputable def whole.tw12976933641374925533 : Unit := ()
noncomputable def whole.tw9988426361468213469 : Unit := ()
noncomputable def whole.tw9841425051670495895 : Unit := ()
noncomputable def whole.tw978456291528864041 : Unit := ()
noncomputable def whole.tw9722750020625992282 : Unit := ()
noncomputable def whole.tw9464417701048127947 : Unit := ()
noncomputable def whole.tw9046693723037758376 : Unit := ()
noncomputable def whole.tw8983667203327932493 : Unit := ()
noncomputable def whole.tw8868806382682364411 : Unit := ()
noncomputable def whole.tw8719548228035378133 : Unit := ()
noncomputable def whole.tw8572516506043022915 : Unit := ()
noncomputable def whole.tw843396670912023852 : Unit := ()
noncomputable def whole.tw8351164730277109312 : Unit := ()
noncomputable def whole.tw8309436690622926411 : Unit := ()
noncomputable def whole.tw8101450032967502455 : Unit := ()
noncomputable def whole.tw7588574119468234827 : Unit := ()
noncomputable def whole.tw7564407027854533171 : Unit := ()
noncomputable def whole.tw7545590854473540767 : Unit := ()
noncomputable def whole.tw7499365098147365621 : Unit := ()
noncomputable def whole.tw7280849871689594849 : Unit := ()
noncomputable def whole.tw7248877203947682478 : Unit := ()
noncomputable def whole.tw715978364194892080 : Unit := ()
noncomputable def whole.tw7073311072910153293 : Unit := ()
noncomputable def whole.tw6933715213461094250 : Unit := ()
noncomputable def whole.tw675793542917168019 : Unit := ()
noncomputable def whole.tw6734874506966982255 : Unit := ()
noncomputable def whole.tw668774492082921180 : Unit := ()
noncomputable def whole.tw6612613915786651340 : Unit := ()
noncomputable def whole.tw6496092161831514541 : Unit := ()
noncomputable def whole.tw6453619897266653623 : Unit := ()
noncomputable def whole.tw6377287985247879410 : Unit := ()
noncomputable def whole.tw6330797023819526829 : Unit := ()
noncomputable def whole.tw6211587326476211309 : Unit := ()
noncomputable def whole.tw6084657873442493111 : Unit := ()
noncomputable def whole.tw590541238101311183 : Unit := ()
noncomputable def whole.tw5649241889958590350 : Unit := ()
noncomputable def whole.tw5433660331597885046 : Unit := ()
noncomputable def whole.tw5405151241437436114 : Unit := ()
noncomputable def whole.tw536816803628104207 : Unit := ()
noncomputable def whole.tw5360207378560713126 : Unit := ()
noncomputable def whole.tw5297632933804744799 : Unit := ()
noncomputable def whole.tw5189780602208921310 : Unit := ()
noncomputable def whole.tw5171116725156735389 : Unit := ()
noncomputable def whole.tw5146043315109619605 : Unit := ()
noncomputable def whole.tw5137022389394785357 : Unit := ()
noncomputable def whole.tw5081031077709457048 : Unit := ()
noncomputable def whole.tw5015864234111024480 : Unit := ()
noncomputable def whole.tw5001923725869043736 : Unit := ()
noncomputable def whole.tw46433443316919834 : Unit := ()
noncomputable def whole.tw4535560162481520197 : Unit := ()
noncomputable def whole.tw4487652198498899664 : Unit := ()
noncomputable def whole.tw4447922135398794285 : Unit := ()
noncomputable def whole.tw4444701892398472603 : Unit := ()
noncomputable def whole.tw43722865635132848 : Unit := ()
noncomputable def whole.tw4162360135600614074 : Unit := ()
noncomputable def whole.tw3947618128840659280 : Unit := ()
noncomputable def whole.tw3869719713472690019 : Unit := ()
noncomputable def whole.tw381110514646162275 : Unit := ()
noncomputable def whole.tw369943808078234791 : Unit := ()
noncomputable def whole.tw356215775963413058 : Unit := ()
noncomputable def whole.tw3479739002732855021 : Unit := ()
noncomputable def whole.tw3390907139478361160 : Unit := ()
noncomputable def whole.tw3270133029678145397 : Unit := ()
noncomputable def whole.tw3162365515331879682 : Unit := ()
noncomputable def whole.tw3141554390599180669 : Unit := ()
noncomputable def whole.tw3099485228618234346 : Unit := ()
noncomputable def whole.tw3016316376071577429 : Unit := ()
noncomputable def whole.tw2777902329107566167 : Unit := ()
noncomputable def whole.tw254780913952180833 : Unit := ()
noncomputable def whole.tw2536362301702204066 : Unit := ()
noncomputable def whole.tw2401531773124529735 : Unit := ()
noncomputable def whole.tw2021854409746315462 : Unit := ()
noncomputable def whole.tw1897105925431849711 : Unit := ()
noncomputable def whole.tw18382394861701510011 : Unit := ()
noncomputable def whole.tw18162983195158539490 : Unit := ()
noncomputable def whole.tw17992364426957274132 : Unit := ()
noncomputable def whole.tw17991299263585117788 : Unit := ()
noncomputable def whole.tw17881794589497109145 : Unit := ()
noncomputable def whole.tw17870853324313594786 : Unit := ()
noncomputable def whole.tw17841917278309519415 : Unit := ()
noncomputable def whole.tw17819583843959417973 : Unit := ()
noncomputable def whole.tw17463027529269885953 : Unit := ()
noncomputable def whole.tw17295703372945214271 : Unit := ()
noncomputable def whole.tw17195952149560314771 : Unit := ()
noncomputable def whole.tw17179786008130999086 : Unit := ()
noncomputable def whole.tw17037309529492816295 : Unit := ()
noncomputable def whole.tw1699034841665187622 : Unit := ()
noncomputable def whole.tw16986268789631483586 : Unit := ()
noncomputable def whole.tw1692622564874605650 : Unit := ()
noncomputable def whole.tw16845944245580146995 : Unit := ()
noncomputable def whole.tw16738726308800667447 : Unit := ()
noncomputable def whole.tw16616245412964173377 : Unit := ()
noncomputable def whole.tw16564990636065421569 : Unit := ()
noncomputable def whole.tw16529046165737248422 : Unit := ()
noncomputable def whole.tw16467933323881711526 : Unit := ()
noncomputable def whole.tw16442795661328238356 : Unit := ()
noncomputable def whole.tw16342273516520970692 : Unit := ()
noncomputable def whole.tw16062187612904122858 : Unit := ()
noncomputable def whole.tw1601961968588287001 : Unit := ()
noncomputable def whole.tw1587768003098754325 : Unit := ()
noncomputable def whole.tw15657491793718945610 : Unit := ()
noncomputable def whole.tw15652777202477211125 : Unit := ()
noncomputable def whole.tw15564212434770411261 : Unit := ()
noncomputable def whole.tw15539963934695697727 : Unit := ()
noncomputable def whole.tw15462414832971340256 : Unit := ()
noncomputable def whole.tw15105012252411618398 : Unit := ()
noncomputable def whole.tw15015764479258077956 : Unit := ()
noncomputable def whole.tw15001587830400145190 : Unit := ()
noncomputable def whole.tw14916202748087371944 : Unit := ()
noncomputable def whole.tw14877643965249282964 : Unit := ()
noncomputable def whole.tw14857529406646634625 : Unit := ()
noncomputable def whole.tw14628220171574447489 : Unit := ()
noncomputable def whole.tw14621228733418778453 : Unit := ()
noncomputable def whole.tw14395644662136614805 : Unit := ()
noncomputable def whole.tw14390007995909808975 : Unit := ()
noncomputable def whole.tw14239292526413980002 : Unit := ()
noncomputable def whole.tw14192229110069238088 : Unit := ()
noncomputable def whole.tw14173393766343599159 : Unit := ()
noncomputable def whole.tw13989200534822022692 : Unit := ()
noncomputable def whole.tw13962616709173656972 : Unit := ()
noncomputable def whole.tw13835169320686990480 : Unit := ()
noncomputable def whole.tw13829708278779851847 : Unit := ()
noncomputable def whole.tw13749801708979339770 : Unit := ()
noncomputable def whole.tw13730376311393935369 : Unit := ()
noncomputable def whole.tw13478315594510353802 : Unit := ()
noncomputable def whole.tw13463558215457259582 : Unit := ()
noncomputable def whole.tw1318554304652621475 : Unit := ()
noncomputable def whole.tw13155097880312403346 : Unit := ()
noncomputable def whole.tw13061340530893119238 : Unit := ()
noncomputable def whole.tw13045181716907704641 : Unit := ()
noncomputable def whole.tw13000713063990318526 : Unit := ()
noncomputable def whole.tw12967805889597932581 : Unit := ()
noncomputable def whole.tw12928932934922122878 : Unit := ()
noncomputable def whole.tw12920395458479335663 : Unit := ()
noncomputable def whole.tw12808456870637180559 : Unit := ()
noncomputable def whole.tw12742087137024979937 : Unit := ()
noncomputable def whole.tw12698311456782994138 : Unit := ()
noncomputable def whole.tw12598572606399187110 : Unit := ()
noncomputable def whole.tw1256279898242784606 : Unit := ()
noncomputable def whole.tw12384220206497402333 : Unit := ()
noncomputable def whole.tw12219512705738599021 : Unit := ()
noncomputable def whole.tw12092817750456807627 : Unit := ()
noncomputable def whole.tw12012580348766612465 : Unit := ()
noncomputable def whole.tw11966515284280811977 : Unit := ()
noncomputable def whole.tw11841974853317911985 : Unit := ()
noncomputable def whole.tw11791088910183784695 : Unit := ()
noncomputable def whole.tw11476502588441444683 : Unit := ()
noncomputable def whole.tw11423436602419212718 : Unit := ()
noncomputable def whole.tw11409993775148365219 : Unit := ()
noncomputable def whole.tw113900542113845248 : Unit := ()
noncomputable def whole.tw11124209341801176217 : Unit := ()
noncomputable def whole.tw11018331769982298155 : Unit := ()
noncomputable def whole.tw10838650209671834137 : Unit := ()
noncomputable def whole.tw10805158454514937742 : Unit := ()
noncomputable def whole.tw10749463760870054271 : Unit := ()
noncomputable def whole.tw10565146586650446459 : Unit := ()
noncomputable def whole.tw10488504414272976643 : Unit := ()
noncomputable def whole.tw10438997657263567297 : Unit := ()
noncomputable def whole.tw10344827342348678470 : Unit := ()
noncomputable def whole.tw10335108021726791369 : Unit := ()
noncomputable def whole.tw10332575325313852403 : Unit := ()
noncomputable def whole.tw10153838690179905649 : Unit := ()
noncomputable def whole.tw10000958634945066235 : Unit := ()
noncomputable def whole.tw5792753953349211808 : Unit := ()
noncomputable def whole.tw5747418245964238587 : Unit := ()
noncomputable def whole.tw2080822978456719665 : Unit := ()
noncomputable def whole.tw18057854407921807401 : Unit := ()
noncomputable def whole.tw16886603127163593874 : Unit := ()
noncomputable def whole.tw16425821646832534254 : Unit := ()
noncomputable def whole.tw15161573389104924935 : Unit := ()
noncomputable def whole.tw14398639782218008916 : Unit := ()
noncomputable def whole.tw561600600097829391 : Unit := ()
noncomputable def whole.tw2558861820686608913 : Unit := ()
noncomputable def whole.tw2290268214366725154 : Unit := ()
noncomputable def whole.tw16576061068926947915 : Unit := ()
noncomputable def whole.tw8284271217205693211 : Unit := ()
noncomputable def whole.tw5055955640874334904 : Unit := ()
noncomputable def whole.tw3724477965614018403 : Unit := ()
noncomputable def whole.tw3633373589777264862 : Unit := ()
noncomputable def whole.tw3168900989282067249 : Unit := ()
noncomputable def whole.tw15680802009173567957 : Unit := ()
noncomputable def whole.tw14493418047887008292 : Unit := ()
noncomputable def whole.tw11850914282074322712 : Unit := ()
noncomputable def whole.tw10646667717487897683 : Unit := ()
noncomputable def whole.tw9994479494313819776 : Unit := ()
noncomputable def whole.tw9838295914634562783 : Unit := ()
noncomputable def whole.tw9685896690342822935 : Unit := ()
noncomputable def whole.tw9654072969724333583 : Unit := ()
noncomputable def whole.tw9625973628771424018 : Unit := ()
noncomputable def whole.tw9521756469634577901 : Unit := ()
noncomputable def whole.tw9315315907157715723 : Unit := ()
noncomputable def whole.tw9189751539129569556 : Unit := ()
noncomputable def whole.tw9170513070990267023 : Unit := ()
noncomputable def whole.tw8894826161267586577 : Unit := ()
noncomputable def whole.tw8884531897199943920 : Unit := ()
noncomputable def whole.tw8523286992835677893 : Unit := ()
noncomputable def whole.tw7925426705801168976 : Unit := ()
noncomputable def whole.tw7910221479046277610 : Unit := ()
noncomputable def whole.tw7576292583959916747 : Unit := ()
noncomputable def whole.tw7545654013535254480 : Unit := ()
noncomputable def whole.tw7187317218736086229 : Unit := ()
noncomputable def whole.tw7078629122812257199 : Unit := ()
noncomputable def whole.tw6896427876366098391 : Unit := ()
noncomputable def whole.tw6866068747796929802 : Unit := ()
noncomputable def whole.tw6774775609766916077 : Unit := ()
noncomputable def whole.tw6766658173562982576 : Unit := ()
noncomputable def whole.tw6714927969197098277 : Unit := ()
noncomputable def whole.tw6711224856247384401 : Unit := ()
noncomputable def whole.tw6553984163096543158 : Unit := ()
noncomputable def whole.tw6531100040246800141 : Unit := ()
noncomputable def whole.tw6421574377784992043 : Unit := ()
noncomputable def whole.tw6356627984389668255 : Unit := ()
noncomputable def whole.tw627836218701940097 : Unit := ()
noncomputable def whole.tw620233503781600244 : Unit := ()
noncomputable def whole.tw6197045082498751548 : Unit := ()
noncomputable def whole.tw6097748072631727781 : Unit := ()
noncomputable def whole.tw6095937858554715304 : Unit := ()
noncomputable def whole.tw6049599900894316688 : Unit := ()
noncomputable def whole.tw5879479702872096659 : Unit := ()
noncomputable def whole.tw5790326999694950120 : Unit := ()
noncomputable def whole.tw5532809562029925614 : Unit := ()
noncomputable def whole.tw5408107943391738 : Unit := ()
noncomputable def whole.tw4934077235998201596 : Unit := ()
noncomputable def whole.tw4909349585908861296 : Unit := ()
noncomputable def whole.tw4479364801722962140 : Unit := ()
noncomputable def whole.tw437534634077163847 : Unit := ()
noncomputable def whole.tw431044224361937856 : Unit := ()
noncomputable def whole.tw4163455835068889971 : Unit := ()
noncomputable def whole.tw397210227534267232 : Unit := ()
noncomputable def whole.tw3945383572190744343 : Unit := ()
noncomputable def whole.tw3909395182359919685 : Unit := ()
noncomputable def whole.tw3860174431591174066 : Unit := ()
noncomputable def whole.tw3817958767811374121 : Unit := ()
noncomputable def whole.tw3802398583823018356 : Unit := ()
noncomputable def whole.tw3720110479823389818 : Unit := ()
noncomputable def whole.tw3604371722874584219 : Unit := ()
noncomputable def whole.tw3306209509626126654 : Unit := ()
noncomputable def whole.tw3028004478679740547 : Unit := ()
noncomputable def whole.tw2665807779830099079 : Unit := ()
noncomputable def whole.tw2649048575011448004 : Unit := ()
noncomputable def whole.tw2608646628457097981 : Unit := ()
noncomputable def whole.tw2439357469168130064 : Unit := ()
noncomputable def whole.tw2349701861695252166 : Unit := ()
noncomputable def whole.tw2081632904089052959 : Unit := ()
noncomputable def whole.tw203428145850139289 : Unit := ()
noncomputable def whole.tw2028823117376367632 : Unit := ()
noncomputable def whole.tw18324492136986001645 : Unit := ()
noncomputable def whole.tw18060336119277286115 : Unit := ()
noncomputable def whole.tw18056553881098321084 : Unit := ()
noncomputable def whole.tw17980908128825299112 : Unit := ()
noncomputable def whole.tw17948893368442150300 : Unit := ()
noncomputable def whole.tw17843127513448600897 : Unit := ()
noncomputable def whole.tw17789319016849944305 : Unit := ()
noncomputable def whole.tw17768757769460313278 : Unit := ()
noncomputable def whole.tw17659150536888882668 : Unit := ()
noncomputable def whole.tw16912792503757511054 : Unit := ()
noncomputable def whole.tw16668768811381343612 : Unit := ()
noncomputable def whole.tw16588625043399567139 : Unit := ()
noncomputable def whole.tw16398205279857054297 : Unit := ()
noncomputable def whole.tw1633898876240874773 : Unit := ()
noncomputable def whole.tw161333873384909080 : Unit := ()
noncomputable def whole.tw16026843855606243410 : Unit := ()
noncomputable def whole.tw15401142651479110994 : Unit := ()
noncomputable def whole.tw14776171463994254414 : Unit := ()
noncomputable def whole.tw14592908492388784131 : Unit := ()
noncomputable def whole.tw14457598465852218886 : Unit := ()
noncomputable def whole.tw14398828562116658018 : Unit := ()
noncomputable def whole.tw14031613983174702221 : Unit := ()
noncomputable def whole.tw13675596732203519343 : Unit := ()
noncomputable def whole.tw13329942582686594379 : Unit := ()
noncomputable def whole.tw13156973312945586846 : Unit := ()
noncomputable def whole.tw13142167418276237254 : Unit := ()
noncomputable def whole.tw13018183266405097566 : Unit := ()
noncomputable def whole.tw12852820008105578649 : Unit := ()
noncomputable def whole.tw12850242359631670003 : Unit := ()
noncomputable def whole.tw12762855891700095494 : Unit := ()
noncomputable def whole.tw12761472262123182041 : Unit := ()
noncomputable def whole.tw12499812526503966003 : Unit := ()
noncomputable def whole.tw12117460353608821864 : Unit := ()
noncomputable def whole.tw12098860561503762481 : Unit := ()
noncomputable def whole.tw11975771152792504044 : Unit := ()
noncomputable def whole.tw11952309323241053379 : Unit := ()
noncomputable def whole.tw11860497122814397755 : Unit := ()
noncomputable def whole.tw11792362355297244138 : Unit := ()
noncomputable def whole.tw11678933692714762019 : Unit := ()
noncomputable def whole.tw11501073197159204048 : Unit := ()
noncomputable def whole.tw11316320225543275868 : Unit := ()
noncomputable def whole.tw11187447588885237514 : Unit := ()
noncomputable def whole.tw1114806542021703131 : Unit := ()
noncomputable def whole.tw11100186960236547562 : Unit := ()
noncomputable def whole.tw10832908153356258463 : Unit := ()
noncomputable def whole.tw10654317064775040509 : Unit := ()
noncomputable def whole.tw10472183733418339316 : Unit := ()
noncomputable def whole.tw1021466310418864216 : Unit := ()
noncomputable def whole.tw10118140284582671090 : Unit := ()
noncomputable def whole.tw10025635815308576066 : Unit := ()
noncomputable def whole.tw10002100669626812175 : Unit := ()
noncomputable def whole.tw9446046918361872579 : Unit := ()
noncomputable def whole.tw7181214704614307865 : Unit := ()
noncomputable def whole.tw3846472181373799198 : Unit := ()
noncomputable def whole.tw2781955308351554444 : Unit := ()
noncomputable def whole.tw17256302963761357986 : Unit := ()
noncomputable def whole.tw13447532951914335906 : Unit := ()
end Mine
end

open PySem PySem.W PyProof.Rows
set_option Elab.async true in
set_option maxRecDepth 100000 in
set_option maxHeartbeats 8000000 in
theorem Mine.whole : PySem.Challenge.rw_re0093_01.Holds := by
  (w_on; o_law; k_head; (case hw => w_witness2))
  intro w s₀ s₁ mg mb G Y fa o pm cd doc dV kV ho hd hcd hD hmg hg args vals as hpre hlay hrd hwl hlo
  have KX := kIn_of Y
  have T := G.T
  clear G Y hd hcd hD ho
  have hr := Mine.recs_of T (by
    refine ⟨List.mem_of_getElem? (i := 1) ?_, List.mem_of_getElem? (i := 2) ?_, List.mem_of_getElem? (i := 4) ?_, List.mem_of_getElem? (i := 5) ?_, List.mem_of_getElem? (i := 6) ?_, List.mem_of_getElem? (i := 8) ?_, List.mem_of_getElem? (i := 9) ?_, List.mem_of_getElem? (i := 10) ?_, List.mem_of_getElem? (i := 11) ?_⟩ <;> kernel_rfl)
  have H := Mine.heap_of T KX (by kernel_rfl) hr
  have hf := Mine.law_at T hr hmg
  clear KX
  wrow_args hpre hlay hrd hwl hlo
  refine Mine.law_call H hf (by assumption) (by assumption) (by omega) fun s' k => ?_
  obtain ⟨h', tk, rfl, kk⟩ := k
  refine GoodW.toG ⟨.inl ⟨_, .bool true, [], rfl, fun _ => rfl, .bool true, ?_, fun _ => ⟨List.nodup_nil, fun _ h => nomatch h⟩⟩, kk, rfl, hg⟩
  exact postW_of (X := true) (by kernel_rfl) (by kernel_rfl) rfl

theorem PySem.Challenge.cw_re0093_01_holds : PySem.Challenge.rw_re0093_01.Holds :=
  Mine.whole

